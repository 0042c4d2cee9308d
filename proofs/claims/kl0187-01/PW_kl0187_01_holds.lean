import PyProof.Rows.All
import PyProof.CodeObj
import PyProof.AssignAttr
import PyProof.AttrMiss
import PyProof.ForAny
import PyProof.CallStr
import PyProof.Cells
import PyProof.MinMaxWalk
import PyProof.StrWalks
import PyProof.CompFree
import PyProof.ListOps
import PyProof.DictList
import PyProof.DictTable
import PyProof.EnumIter
import PyProof.EnumFor
import PyProof.EnumStmt
import PyProof.EnumMake
import PyProof.MeetsSeq3
import PyProof.EqAt
import PyProof.IsRules
import PyProof.Rows.EqNone
import PyProof.NeKinds
import PyProof.StrLawsIn
import PyProof.StrOps2
import PyProof.RangeIter
import PyProof.RangeFor
import PyProof.IsiPairs
import PyProof.LetGo
import PyProof.ListTruth
import PyProof.Rows.TupIter
import PyProof.Rows.TupAssign
import PyProof.StrCalls
import PyProof.Rows.StrNews
import PyProof.Rows.CallKw2
import PyProof.Rows.StrOrd
import PyProof.Rows.StrInSeq3
import PyProof.Rows.RuleN_abs
import PyProof.Rows.TupMore
import PyProof.SliceMore
import PyProof.StrLawsFrom
import PyProof.StrLawsTight
import PyProof.StrLawsReplace
import PyProof.StrLawsLast
import PyProof.Rows.ListDel
import PyProof.RulesAssignMore
import PyProof.TupleOfGen
import PyProof.Rows.RaiseClass
import PyProof.SetRoads
import PyProof.SetNew
import OpenK.KMore
import KE.KDictOf
import KE.KRevSl
import Wide.FinOn
import OpenK.AllK
import Wide.All
import PySem.Challenge.RW_kl0187_01
set_option Elab.async false
set_option linter.all false
set_option compiler.extract_closed false
set_option bootstrap.genMatcherCode false
section
open PySem PySem.W PyProof.Rows
set_option maxRecDepth 100000
set_option maxHeartbeats 0
set_option tactic.hygienic false
namespace MineH
abbrev pw : Program := PySem.Challenge.pw_kl0187_01
abbrev rwl : OpenLaw := PySem.Challenge.rw_kl0187_01
theorem said : PySem.Challenge.rw_kl0187_01.wellSaid = true := by
  rw [PySem.W.Fast.te9446332074065402090]
  kernel_rfl
noncomputable def sv (x : String) (t : Nat) : Value := .str (Str.ofString x) t
noncomputable def en (P : Params) (x : String) (t : Nat) (v : Value) : DictEntry := { hash := PyData.keyHash P (Str.ofString x), key := .str (Str.ofString x) t, val := v }
noncomputable def ob1 (P : Params) : Obj := { cls := .type "dict", data := Data.dict #[en P "builtins" 162 (.ref 4), en P "__main__" 163 (.ref 5), en P "_collections" 246 (.ref 13)] 3 }
noncomputable def ob2 (P : Params) : Obj := { cls := .none, data := Data.dict #[en P "\x69mport.loaded._collections" 185 (.bool true), en P "class._frozen_importlib.BuiltinImporter" 187 (.ref 15), en P "watched.\x69mport" 208 (.ref 19), en P "class._frozen_importlib.ModuleSpec" 218 (.ref 23), en P "sys.modules.booked-epoch" 247 (.int 3 0), en P "sys.modules.landed._collections" 248 (.bool true), en P "\x69mport.later-laid._collections" 263 (.bool true), en P "watched.library" 265 (.ref 28), en P "watched.library-objects" 0 (sv "\x0d" 0), en P "watched.library-deep._collections" 266 (sv "\x04\x00\x00\x0c\x04\x00\x00\x0c\x04\x00\x00\x03\x04\x00\x00\x0c\x08\x04dict\x02" 0)] 10 }
noncomputable def ob3 (P : Params) : Obj := { cls := .type "dict", data := Data.dict #[en P "__name__" 165 (sv "__main__" 164), en P "__doc__" 166 (.none), en P "__package__" 167 (.none), en P "__loader__" 168 (.builtin "__main__.__loader__#opaque"), en P "__spec__" 169 (.none), en P "__annotations__" 170 (.ref 6), en P "__builtins__" 171 (.ref 4), en P "__file__" 173 (sv "/claim/cut.py" 172), en P "__cached__" 174 (.none), en P "deque" 272 (.type "collections.deque")] 10 }
noncomputable def ob11 (_ : Params) : Obj := { cls := .type "tuple", data := Data.seq #[sv "deque" 182] }
noncomputable def ob12 (P : Params) : Obj := { cls := .type "dict", data := Data.dict #[en P "__name__" 250 (sv "_collections" 249), en P "__doc__" 251 (.builtin "off-the-table:_collections.__doc__:shared#opaque"), en P "__package__" 253 (sv "" 252), en P "__loader__" 254 (.builtin "off-the-table:_collections.__loader__:shared#opaque"), en P "__spec__" 255 (.builtin "off-the-table:_collections.__spec__:shared#opaque"), en P "_count_elements" 256 (.builtin "_collections._count_elements"), en P "deque" 257 (.type "collections.deque"), en P "defaultdict" 258 (.type "collections.defaultdict"), en P "_deque_iterator" 259 (.builtin "off-the-table:_collections._deque_iterator:shared#opaque"), en P "_deque_reverse_iterator" 260 (.builtin "off-the-table:_collections._deque_reverse_iterator:shared#opaque"), en P "_tuplegetter" 261 (.type "collections._tuplegetter"), en P "OrderedDict" 262 (.type "collections.OrderedDict")] 12 }
noncomputable def ob13 (_ : Params) : Obj := { cls := .type "module", dict := some 12 }
noncomputable def ob14 (P : Params) : Obj := { cls := .type "dict", data := Data.dict #[en P "__module__" 191 (sv "_frozen_importlib" 188), en P "__firstlineno__" 192 (.int 971 189), en P "__doc__" 193 (.builtin "_frozen_importlib.BuiltinImporter.__doc__:str#opaque"), en P "_ORIGIN" 194 (sv "built-in" 190), en P "find_spec" 195 (.builtin "_frozen_importlib.BuiltinImporter.find_spec#opaque"), en P "create_module" 196 (.builtin "_frozen_importlib.BuiltinImporter.create_module#opaque"), en P "exec_module" 197 (.builtin "_frozen_importlib.BuiltinImporter.exec_module#opaque"), en P "get_code" 198 (.builtin "_frozen_importlib.BuiltinImporter.get_code#opaque"), en P "get_source" 199 (.builtin "_frozen_importlib.BuiltinImporter.get_source#opaque"), en P "is_package" 200 (.builtin "_frozen_importlib.BuiltinImporter.is_package#opaque"), en P "load_module" 201 (.builtin "_frozen_importlib.BuiltinImporter.load_module#opaque"), en P "__static_attributes__" 202 (.ref 16), en P "__dict__" 204 (.ref 17), en P "__weakref__" 206 (.ref 18)] 14 }
noncomputable def ob15 (_ : Params) : Obj := { cls := .type "type", data := Data.cls { name := "BuiltinImporter", bases := [.type "object"], mro := [.ref 15, .type "object"], ns := 14, qualname := "BuiltinImporter" } }
noncomputable def ob16 (_ : Params) : Obj := { cls := .type "tuple", data := Data.seq #[] }
noncomputable def ob17 (_ : Params) : Obj := { cls := .type "getset_descriptor", data := Data.fields #[sv "__dict__" 203, .ref 15, .builtin "function.__dict__", .builtin "function.__dict__#set"] }
noncomputable def ob18 (_ : Params) : Obj := { cls := .type "getset_descriptor", data := Data.fields #[sv "__weakref__" 205, .ref 15, .builtin "ExceptionGroup.__weakref__", .none] }
noncomputable def ob19 (_ : Params) : Obj := { cls := .none, data := Data.seq #[.int 14 0, sv "\x06¿\n__module__\x06¼\x11_frozen_importlib\x06À\x0f__firstlineno__\x04½\x00ϋ\x06Á\x07__doc__\t4_frozen_importlib.BuiltinImporter.__doc__:str#opaque\x06Â\x07_ORIGIN\x06¾\x08built-in\x06Ã\tfind_spec\t2_frozen_importlib.BuiltinImporter.find_spec#opaque\x06Ä\x0dcreate_module\t6_frozen_importlib.BuiltinImporter.create_module#opaque\x06Å\x0bexec_module\t4_frozen_importlib.BuiltinImporter.exec_module#opaque\x06Æ\x08get_code\t1_frozen_importlib.BuiltinImporter.get_code#opaque\x06Ç\nget_source\t3_frozen_importlib.BuiltinImporter.get_source#opaque\x06È\nis_package\t3_frozen_importlib.BuiltinImporter.is_package#opaque\x06É\x0bload_module\t4_frozen_importlib.BuiltinImporter.load_module#opaque\x06Ê\x15__static_attributes__\x04\x00\x00\x10\x06Ì\x08__dict__\x04\x00\x00\x11\x06Î\x0b__weakref__\x04\x00\x00\x12" 0, .bool true, .bool true, sv "" 207, .int 22 0, sv "\x06å\n__module__\x06Û\x11_frozen_importlib\x06æ\x0f__firstlineno__\x04Ü\x00Ȳ\x06ç\x07__doc__\t/_frozen_importlib.ModuleSpec.__doc__:str#opaque\x06è\x08__init__\t,_frozen_importlib.ModuleSpec.__init__#opaque\x06é\x08__repr__\t,_frozen_importlib.ModuleSpec.__repr__#opaque\x06ê\x06__eq__\t*_frozen_importlib.ModuleSpec.__eq__#opaque\x06ë\x06cached\t*_frozen_importlib.ModuleSpec.cached#opaque\x06ì\x06parent\t*_frozen_importlib.ModuleSpec.parent#opaque\x06í\x0chas_location\t0_frozen_importlib.ModuleSpec.has_location#opaque\x06î\x15__static_attributes__\x04\x00\x00\x18\x06ð\x08__dict__\x04\x00\x00\x19\x06ò\x0b__weakref__\x04\x00\x00\x1a\x06ó\x08__hash__\x00" 0, .bool true, .bool true, sv "" 244] 1 }
noncomputable def ob20 (_ : Params) : Obj := { cls := .type "list", data := Data.seq #[] }
noncomputable def ob21 (P : Params) : Obj := { cls := .type "dict", data := Data.dict #[en P "name" 210 (sv "_collections" 209), en P "loader" 211 (.ref 15), en P "origin" 212 (sv "built-in" 186), en P "loader_state" 213 (.none), en P "submodule_search_locations" 214 (.none), en P "_uninitialized_submodules" 215 (.ref 20), en P "_set_fileattr" 216 (.bool false), en P "_cached" 217 (.none), en P "_initializing" 245 (.bool false)] 9 }
noncomputable def ob22 (P : Params) : Obj := { cls := .type "dict", data := Data.dict #[en P "__module__" 229 (sv "_frozen_importlib" 219), en P "__firstlineno__" 230 (.int 562 220), en P "__doc__" 231 (.builtin "_frozen_importlib.ModuleSpec.__doc__:str#opaque"), en P "__init__" 232 (.builtin "_frozen_importlib.ModuleSpec.__init__#opaque"), en P "__repr__" 233 (.builtin "_frozen_importlib.ModuleSpec.__repr__#opaque"), en P "__eq__" 234 (.builtin "_frozen_importlib.ModuleSpec.__eq__#opaque"), en P "cached" 235 (.builtin "_frozen_importlib.ModuleSpec.cached#opaque"), en P "parent" 236 (.builtin "_frozen_importlib.ModuleSpec.parent#opaque"), en P "has_location" 237 (.builtin "_frozen_importlib.ModuleSpec.has_location#opaque"), en P "__static_attributes__" 238 (.ref 24), en P "__dict__" 240 (.ref 25), en P "__weakref__" 242 (.ref 26), en P "__hash__" 243 (.none)] 13 }
noncomputable def ob23 (_ : Params) : Obj := { cls := .type "type", data := Data.cls { name := "ModuleSpec", bases := [.type "object"], mro := [.ref 23, .type "object"], ns := 22, qualname := "ModuleSpec" } }
noncomputable def ob24 (_ : Params) : Obj := { cls := .type "tuple", data := Data.seq #[sv "_cached" 221, sv "_set_fileattr" 222, sv "_uninitialized_submodules" 223, sv "loader" 224, sv "loader_state" 225, sv "name" 226, sv "origin" 227, sv "submodule_search_locations" 228] }
noncomputable def ob25 (_ : Params) : Obj := { cls := .type "getset_descriptor", data := Data.fields #[sv "__dict__" 239, .ref 23, .builtin "function.__dict__", .builtin "function.__dict__#set"] }
noncomputable def ob26 (_ : Params) : Obj := { cls := .type "getset_descriptor", data := Data.fields #[sv "__weakref__" 241, .ref 23, .builtin "ExceptionGroup.__weakref__", .none] }
noncomputable def ob27 (_ : Params) : Obj := { cls := .ref 23, dict := some 21 }
noncomputable def ob28 (_ : Params) : Obj := { cls := .none, data := Data.seq #[.int 12 0, sv "\x06ú\x08__name__\x06ù\x0c_collections\x06û\x07__doc__\t\x1f_collections.__doc__:str#opaque\x06ý\x0b__package__\x06ü\x00\x06þ\n__loader__\x04\x00\x00\x0f\x06ÿ\x08__spec__\x04\x00\x00\x1b\x06Ā\x0f_count_elements\t\x1c_collections._count_elements\x06ā\x05deque\x08\x11collections.deque\x06Ă\x0bdefaultdict\x08\x17collections.defaultdict\x06ă\x0f_deque_iterator\x08\x1bcollections._deque_iterator\x06Ą\x17_deque_reverse_iterator\x08#collections._deque_reverse_iterator\x06ą\x0c_tuplegetter\x08\x18collections._tuplegetter\x06Ć\x0bOrderedDict\x08\x17collections.OrderedDict" 0, .bool true, .bool false, sv "_collections" 264] }
noncomputable def ob29 (_ : Params) : Obj := { cls := .type "tuple", data := Data.seq #[] }
noncomputable def ob30 (_ : Params) : Obj := { cls := .none, data := Data.fields #[] }
noncomputable def ob31 (_ : Params) : Obj := { cls := .type "code", data := Data.fields #[sv "<module>" 274, sv "<module>" 275, sv "/claim/cut.py" 276, .int 1 0, .int 0 0, .int 0 0, .int 0 0, .int 0 0, .ref 29, .bool false, .int 273 0, .ref 30, .none, .none, .none, .none, .int 277 0, .int 1 0, sv "/claim/cut.py" 278] }
noncomputable def ob32 (_ : Params) : Obj := { cls := .type "frame", slots := #[some (.ref 31), some (.ref 3), some (.ref 3), none, some (sv "__main__" 164), none, some (.ref 0)] }
noncomputable def H0 (P : Params) : Heap := ⟨⟨[boot_o_0 P, ob1 P, ob2 P, ob3 P, boot_o_4 P, boot_o_5 P, boot_o_6 P, boot_o_7 P, boot_o_8 P, boot_o_9 P, boot_o_10 P, ob11 P, ob12 P, ob13 P, ob14 P, ob15 P, ob16 P, ob17 P, ob18 P, ob19 P, ob20 P, ob21 P, ob22 P, ob23 P, ob24 P, ob25 P, ob26 P, ob27 P, ob28 P]⟩, {}⟩
noncomputable def T1 (P : Params) : BT := (.node (boot_o_0 P) (.node (ob1 P) (.node (ob3 P) (.node (boot_o_7 P) (.node (ob15 P) (.node (ob31 P) .nil .nil) .nil) (.node (ob23 P) .nil .nil)) (.node (ob11 P) (.node (ob19 P) .nil .nil) (.node (ob27 P) .nil .nil))) (.node (boot_o_5 P) (.node (boot_o_9 P) (.node (ob17 P) .nil .nil) (.node (ob25 P) .nil .nil)) (.node (ob13 P) (.node (ob21 P) .nil .nil) (.node (ob29 P) .nil .nil)))) (.node (ob2 P) (.node (boot_o_4 P) (.node (boot_o_8 P) (.node (ob16 P) (.node (ob32 P) .nil .nil) .nil) (.node (ob24 P) .nil .nil)) (.node (ob12 P) (.node (ob20 P) .nil .nil) (.node (ob28 P) .nil .nil))) (.node (boot_o_6 P) (.node (boot_o_10 P) (.node (ob18 P) .nil .nil) (.node (ob26 P) .nil .nil)) (.node (ob14 P) (.node (ob22 P) .nil .nil) (.node (ob30 P) .nil .nil)))))
noncomputable def S1 (w : World) (os : OsState) : SharedT := ⟨T1 w.params, 33, {}, #[], {}, 279, os⟩
noncomputable abbrev p0 : Pos := ⟨0, 0, 0, 0⟩
noncomputable def env1 : Env := { scope := pw.main.scope, locals := mainNs, globals := mainNs, cells := [], code := .ref 31, frame := some 32 }
noncomputable abbrev bd : List Stmt := behindTheImports pw
noncomputable abbrev cE : Code := .body bd env1
theorem opens (w : World) : (fencedOpening treeTable pw w 12048).map (fun s => (s.heap, s.gens, s.drawn, s.toks)) = some (H0 w.params, #[], {}, 273) := by
  unfold fencedOpening
  rw [PySem.W.Fast.te10274390034422433532, PySem.W.Fast.te14289696077712309145, PySem.W.Fast.te1435165496053646825, PySem.W.Fast.te14364793385576792824]
  kernel_rfl
theorem pre (w : World) : (fun os => topGo treeTable pw w 29 (some (.ref 6)) 12 ⟨H0 w.params, #[], {}, 273, os⟩ (topStub pw)) = fun os => some ((S1 w os).abs, ⟨denote treeTable cE, cE, p0, [topFrame p0]⟩) := by
  rw [PySem.W.Fast.te15667345088766844465, PySem.W.Fast.te14364793385576792824, PySem.W.Fast.te11892475500146522536]
  kernel_rfl
theorem block (w : World) : (fun os => segRun treeTable pw w 29 (some (.ref 6)) 1 1 (S1 w os).abs (blockOf bd env1 cE p0 [topFrame p0])) = fun os => some (.next, (S1 w os).abs, cE, p0) := by
  rw [PySem.W.Fast.te14374325043358763698, PySem.W.Fast.te14364793385576792824]
  kernel_rfl
theorem fin (w : World) (s : Shared) (p : Pos) : topRun treeTable pw w 29 (some (.ref 6)) 2 s ⟨doneF .next, cE, p, [topFrame p0]⟩ = some s := by
  rfl
noncomputable def tp (i : Nat) : Stmt := (pw.main.body[i]?).getD (.Pass p0)
noncomputable def mb (i j : Nat) : Stmt := match tp i with
  | .ClassDef _ _ _ b .. => (b[j]?).getD (.Pass p0)
  | _ => .Pass p0
noncomputable def fnO (st : Stmt) (q : String) (dv m : Value) (c : Nat) : Obj := match st with
  | .FunctionDef n ps b _ _ _ sc _ _ _ => { cls := .type "function", data := .func { name := n, qualname := Str.ofString q, params := ps, body := .stmts b, scope := sc, globals := 3, closure := [], defaults := dv, kwdefaults := .none, pyModule := m, code := .ref c } }
  | _ => default
noncomputable def cdO (c : Nat) (nm q : String) (line ac po fl t u : Nat) (vn : Bool) : Obj :=
  let b := if vn then c - 5 else c - 3
  { cls := .type "code", data := .fields #[sv nm t, sv q (t + 1), sv "/claim/cut.py" (t + 2), .int line 0, .int ac 0, .int po 0, .int 0 0, .int fl 0, .ref b, .bool true, .int 273 0, .ref (b + 1), .none, if vn then .ref (b + 2) else .none, if vn then .ref (b + 3) else .none, .ref (c - 1), .int u 0, .int line 0, sv "/claim/cut.py" (u + 1)] }
noncomputable def md0 : Value := sv "law_kl0187_01" 1307
noncomputable def md1 : Value := sv "cpy313.posixpath" 399
noncomputable def md2 : Value := sv "os" 373
noncomputable def md3 : Value := sv "collections.abc" 323
noncomputable def md4 : Value := sv "io" 448
noncomputable def md5 : Value := sv "cpy313.shlex" 1166
noncomputable def kb2 (P : Params) : Obj := { cls := .none, data := Data.dict #[en P "\x69mport.loaded._collections" 185 (.bool true), en P "class._frozen_importlib.BuiltinImporter" 187 (.ref 15), en P "watched.\x69mport" 208 (.ref 19), en P "class._frozen_importlib.ModuleSpec" 218 (.ref 23), en P "sys.modules.booked-epoch" 247 (.int 3 0), en P "sys.modules.landed._collections" 248 (.bool true), en P "\x69mport.later-laid._collections" 263 (.bool true), en P "watched.library" 265 (.ref 28), en P "watched.library-objects" 0 (sv "\x0d" 0), en P "watched.library-deep._collections" 266 (sv "\x04\x00\x00\x0c\x04\x00\x00\x0c\x04\x00\x00\x03\x04\x00\x00\x0c\x08\x04dict\x02" 0), en P "type.__subclasses__.OSError.0" 484 (.int 176 0), en P "type.__subclasses__.OSError.n" 485 (.int 1 0)] 12 }
noncomputable def kb3 (P : Params) : Obj := { cls := .type "dict", data := Data.dict #[en P "__name__" 165 (sv "law_kl0187_01" 1307), en P "__doc__" 166 (.none), en P "__package__" 167 (.none), en P "__loader__" 168 (.builtin "__main__.__loader__#opaque"), en P "__spec__" 169 (.none), en P "__annotations__" 170 (.ref 6), en P "__builtins__" 171 (.ref 4), en P "__file__" 173 (sv "/claim/cut.py" 172), en P "__cached__" 174 (.none), en P "deque" 272 (.type "collections.deque"), en P "_wall" 285 (.ref 39), en P "_plain_name" 296 (.ref 46), en P "ABCMeta" 322 (.ref 63), en P "_ABCLike" 365 (.ref 96), en P "_abc_plain_meta" 372 (.ref 105), en P "fspath" 384 (.ref 112), en P "_check_arg_types" 397 (.ref 723), en P "check_arg_types_genericpath" 398 (.ref 119), en P "_get_sep" 407 (.ref 126), en P "join" 418 (.ref 737), en P "join_posixpath" 419 (.ref 133), en P "split" 430 (.ref 140), en P "dirname" 440 (.ref 744), en P "dirname_posixpath" 441 (.ref 147), en P "commonpath" 447 (.ref 152), en P "_whence" 457 (.ref 159), en P "_index" 465 (.ref 166), en P "UnsupportedOperation" 487 (.ref 176), en P "IOBase" 519 (.ref 196), en P "BufferedIOBase" 537 (.ref 211), en P "TextIOBase" 555 (.ref 223), en P "BytesIO" 817 (.ref 453), en P "StringIO" 1104 (.ref 700), en P "_kind" 1115 (.ref 709), en P "_fspath" 1124 (.ref 716), en P "check_arg_types_path" 1135 (.ref 723), en P "isabs" 1142 (.ref 730), en P "join_path" 1154 (.ref 737), en P "dirname_path" 1165 (.ref 744), en P "shlex" 1306 (.ref 835), en P "_law_tree" 1324 (.ref 846), en P "_law_spelled" 1330 (.ref 851), en P "_law_free" 1344 (.ref 858), en P "_law_plain" 1356 (.ref 865), en P "_law_due" 1369 (.ref 872), en P "_law_lexer" 1377 (.ref 879), en P "_law_read" 1390 (.ref 886), en P "_law_back" 1405 (.ref 893), en P "_law_alone" 1412 (.ref 900), en P "_law_stems" 1418 (.ref 905), en P "law" 1429 (.ref 912)] 51 }
noncomputable def kb195 (P : Params) : Obj := { cls := .type "dict", data := Data.dict #[en P "__module__" 495 (sv "io" 500), en P "__firstlineno__" 499 (.int 150 498), en P "__new__" 510 (.ref 197), en P "__static_attributes__" 511 (.ref 194), en P "__dict__" 514 (.ref 198), en P "__weakref__" 516 (.ref 199), en P "__doc__" 517 (.none)] 4 }
noncomputable def kb196 (_ : Params) : Obj := { cls := .type "type", data := Data.cls { name := "IOBase", bases := [.type "object"], mro := [.ref 196, .type "object"], ns := 195, qualname := "IOBase", subclasses := [.ref 211, .ref 223] }, slots := #[none, none, some (sv "IOBase" 488), some (sv "IOBase" 496), some .none, some (.bool true)] }
noncomputable def kb197 (_ : Params) : Obj := { cls := .type "staticmethod", data := Data.fields #[.ref 193] }
noncomputable def kb222 (P : Params) : Obj := { cls := .type "dict", data := Data.dict #[en P "__module__" 545 (sv "io" 550), en P "__firstlineno__" 549 (.int 159 548), en P "__static_attributes__" 552 (.ref 221), en P "__doc__" 553 (.none)] 2 }
noncomputable def kb223 (_ : Params) : Obj := { cls := .type "type", data := Data.cls { name := "TextIOBase", bases := [.ref 196], mro := [.ref 223, .ref 196, .type "object"], ns := 222, qualname := "TextIOBase", subclasses := [.ref 700] }, slots := #[some (.ref 214), none, some (sv "TextIOBase" 538), some (sv "TextIOBase" 546), some .none, some (.bool true)] }
noncomputable def kb453 (_ : Params) : Obj := { cls := .type "type", data := Data.cls { name := "BytesIO", bases := [.ref 211], mro := [.ref 453, .ref 211, .ref 196, .type "object"], ns := 452, qualname := "BytesIO" }, slots := #[some (.ref 226), none, some (sv "BytesIO" 556), some (sv "BytesIO" 564), some .none, some (.bool true)] }
noncomputable def kb463 (_ : Params) : Obj := { cls := .type "tuple", data := Data.seq #[sv "" 832, sv "\n" 833] }
noncomputable def kb639 (_ : Params) : Obj := { cls := .type "tuple", data := Data.seq #[.int (-1) 1025] }
noncomputable def kb647 (_ : Params) : Obj := { cls := .type "tuple", data := Data.seq #[.int (-1) 1037] }
noncomputable def kb699 (P : Params) : Obj := { cls := .type "dict", data := Data.dict #[en P "__module__" 825 (sv "_io" 830), en P "__firstlineno__" 829 (.int 331 828), en P "__init__" 842 (.ref 470), en P "_StringIO__translated" 851 (.ref 477), en P "_StringIO__check" 858 (.ref 484), en P "_StringIO__check_dot" 865 (.ref 491), en P "_StringIO__line" 880 (.ref 498), en P "closed" 888 (.ref 506), en P "line_buffering" 896 (.ref 514), en P "newlines" 904 (.ref 522), en P "encoding" 912 (.ref 530), en P "errors" 920 (.ref 538), en P "close" 927 (.ref 545), en P "__enter__" 934 (.ref 552), en P "__exit__" 942 (.ref 559), en P "readable" 949 (.ref 566), en P "writable" 956 (.ref 573), en P "seekable" 963 (.ref 580), en P "isatty" 970 (.ref 587), en P "flush" 977 (.ref 594), en P "fileno" 984 (.ref 601), en P "detach" 991 (.ref 608), en P "getvalue" 998 (.ref 615), en P "tell" 1005 (.ref 622), en P "seek" 1015 (.ref 630), en P "truncate" 1023 (.ref 638), en P "read" 1035 (.ref 646), en P "readline" 1045 (.ref 654), en P "readlines" 1055 (.ref 662), en P "__iter__" 1062 (.ref 669), en P "__next__" 1070 (.ref 676), en P "write" 1082 (.ref 683), en P "writelines" 1090 (.ref 690), en P "__repr__" 1097 (.ref 697), en P "__static_attributes__" 1101 (.ref 698), en P "__doc__" 1102 (.none)] 2 }
noncomputable def kb700 (_ : Params) : Obj := { cls := .type "type", data := Data.cls { name := "StringIO", bases := [.ref 223], mro := [.ref 700, .ref 223, .ref 196, .type "object"], ns := 699, qualname := "StringIO" }, slots := #[some (.ref 456), none, some (sv "StringIO" 818), some (sv "StringIO" 826), some .none, some (.bool true)] }
noncomputable def kb752 (_ : Params) : Obj := { cls := .type "tuple", data := Data.seq #[.none, .none, .bool false, .bool false] }
noncomputable def kb767 (_ : Params) : Obj := { cls := .type "property", data := Data.fields #[.ref 766, .none, .none, .none, sv "punctuation_chars" 1199, .bool false] }
noncomputable def kb834 (P : Params) : Obj := { cls := .type "dict", data := Data.dict #[en P "__module__" 1175 (sv "cpy313.shlex" 1166), en P "__firstlineno__" 1179 (.int 603 1178), en P "__init__" 1191 (.ref 759), en P "punctuation_chars" 1199 (.ref 767), en P "push_token" 1207 (.ref 774), en P "push_source" 1216 (.ref 782), en P "pop_source" 1223 (.ref 789), en P "get_token" 1235 (.ref 796), en P "read_token" 1246 (.ref 803), en P "sourcehook" 1254 (.ref 810), en P "error_leader" 1263 (.ref 818), en P "__iter__" 1270 (.ref 825), en P "__next__" 1278 (.ref 832), en P "__static_attributes__" 1299 (.ref 833), en P "__dict__" 1301 (.ref 836), en P "__weakref__" 1303 (.ref 837), en P "__doc__" 1304 (.none)] 4 }
noncomputable def kb835 (_ : Params) : Obj := { cls := .type "type", data := Data.cls { name := "shlex", bases := [.type "object"], mro := [.ref 835, .type "object"], ns := 834, qualname := "shlex" }, slots := #[none, none, some (sv "shlex" 1168), some (sv "shlex" 1176), some (.builtin "object.__new__"), some (.bool true)] }
noncomputable def frag (P : Params) : Frag := [(846, fnO (tp 44) "_law_tree" .none md0 845), (851, fnO (tp 45) "_law_spelled" .none md0 850), (858, fnO (tp 46) "_law_free" .none md0 857), (865, fnO (tp 47) "_law_plain" .none md0 864), (872, fnO (tp 48) "_law_due" .none md0 871), (879, fnO (tp 49) "_law_lexer" .none md0 878), (886, fnO (tp 50) "_law_read" .none md0 885), (893, fnO (tp 51) "_law_back" .none md0 892), (900, fnO (tp 52) "_law_alone" .none md0 899), (905, fnO (tp 53) "_law_stems" .none md0 904), (912, fnO (tp 54) "law" .none md0 911), (133, fnO (tp 16) "join" .none md1 132), (140, fnO (tp 18) "split" .none md1 139), (147, fnO (tp 19) "dirname" .none md1 146), (152, fnO (tp 21) "commonpath" .none md1 151), (112, fnO (tp 10) "fspath" .none md2 111), (126, fnO (tp 15) "_get_sep" .none md1 125), (105, fnO (tp 8) "_abc_plain_meta" .none md3 104), (166, fnO (tp 24) "_index" .none md4 165), (193, fnO (mb 26 1) "IOBase.__new__" .none md4 192), (470, fnO (mb 30 1) "StringIO.__init__" (.ref 463) md4 469), (477, fnO (mb 30 2) "StringIO.__translated" .none md4 476), (484, fnO (mb 30 3) "StringIO.__check" .none md4 483), (498, fnO (mb 30 5) "StringIO.__line" .none md4 497), (646, fnO (mb 30 25) "StringIO.read" (.ref 639) md4 645), (654, fnO (mb 30 26) "StringIO.readline" (.ref 647) md4 653), (759, fnO (mb 42 0) "shlex.__init__" (.ref 752) md5 758), (766, fnO (mb 42 1) "shlex.punctuation_chars" .none md5 765), (796, fnO (mb 42 5) "shlex.get_token" .none md5 795), (803, fnO (mb 42 6) "shlex.read_token" .none md5 802), (845, cdO 845 "_law_tree" "_law_tree" 856 1 0 3 1309 1322 true), (850, cdO 850 "_law_spelled" "_law_spelled" 873 2 0 3 1325 1328 false), (857, cdO 857 "_law_free" "_law_free" 879 2 0 3 1331 1342 true), (864, cdO 864 "_law_plain" "_law_plain" 885 1 0 3 1345 1354 true), (871, cdO 871 "_law_due" "_law_due" 890 2 0 3 1357 1367 true), (878, cdO 878 "_law_lexer" "_law_lexer" 895 1 0 3 1370 1375 true), (885, cdO 885 "_law_read" "_law_read" 899 1 0 3 1378 1388 true), (892, cdO 892 "_law_back" "_law_back" 921 1 0 3 1391 1403 true), (899, cdO 899 "_law_alone" "_law_alone" 943 1 0 3 1406 1410 true), (904, cdO 904 "_law_stems" "_law_stems" 947 2 0 3 1413 1416 false), (911, cdO 911 "law" "law" 955 1 0 3 1419 1427 true), (132, cdO 132 "join" "join" 71 1 0 7 408 416 true), (139, cdO 139 "split" "split" 89 1 0 3 420 428 true), (146, cdO 146 "dirname" "dirname" 97 1 0 3 431 438 true), (151, cdO 151 "commonpath" "commonpath" 106 1 0 3 442 445 false), (111, cdO 111 "fspath" "fspath" 36 1 0 3 375 382 true), (125, cdO 125 "_get_sep" "_get_sep" 66 1 0 3 401 405 true), (104, cdO 104 "_abc_plain_meta" "_abc_plain_meta" 32 1 0 3 366 370 true), (165, cdO 165 "_index" "_index" 141 2 0 3 458 463 true), (192, cdO 192 "__new__" "IOBase.__new__" 153 1 1 15 502 508 true), (469, cdO 469 "__init__" "StringIO.__init__" 334 3 0 3 834 840 true), (476, cdO 476 "__translated" "StringIO.__translated" 347 2 0 3 843 849 true), (483, cdO 483 "__check" "StringIO.__check" 355 1 0 3 852 856 true), (497, cdO 497 "__line" "StringIO.__line" 363 2 0 3 866 878 true), (645, cdO 645 "read" "StringIO.read" 477 2 2 3 1026 1033 true), (653, cdO 653 "readline" "StringIO.readline" 491 2 2 3 1038 1043 true), (758, cdO 758 "__init__" "shlex.__init__" 605 5 0 3 1180 1189 true), (765, cdO 765 "punctuation_chars" "shlex.punctuation_chars" 646 1 0 3 1192 1196 true), (795, cdO 795 "get_token" "shlex.get_token" 673 1 0 3 1224 1233 true), (802, cdO 802 "read_token" "shlex.read_token" 700 1 0 3 1236 1244 true), (2, kb2 P), (3, kb3 P), (195, kb195 P), (196, kb196 P), (197, kb197 P), (222, kb222 P), (223, kb223 P), (453, kb453 P), (463, kb463 P), (639, kb639 P), (647, kb647 P), (699, kb699 P), (700, kb700 P), (752, kb752 P), (767, kb767 P), (834, kb834 P), (835, kb835 P)]
noncomputable def kAs : List Addr := [846, 851, 858, 865, 872, 879, 886, 893, 900, 905, 912, 133, 140, 147, 152, 112, 126, 105, 166, 193, 470, 477, 484, 498, 646, 654, 759, 766, 796, 803, 845, 850, 857, 864, 871, 878, 885, 892, 899, 904, 911, 132, 139, 146, 151, 111, 125, 104, 165, 192, 469, 476, 483, 497, 645, 653, 758, 765, 795, 802, 2, 3, 195, 196, 197, 222, 223, 453, 463, 639, 647, 699, 700, 752, 767, 834, 835]
noncomputable def loose : List Str := (["deque", "_wall", "_plain_name", "ABCMeta", "_ABCLike", "_abc_plain_meta", "fspath", "_check_arg_types", "check_arg_types_genericpath", "_get_sep", "join", "join_posixpath", "split", "dirname", "dirname_posixpath", "commonpath", "_whence", "_index", "UnsupportedOperation", "IOBase", "BufferedIOBase", "TextIOBase", "BytesIO", "StringIO", "_kind", "_fspath", "check_arg_types_path", "isabs", "join_path", "dirname_path", "shlex", "_law_tree", "_law_spelled", "_law_free", "_law_plain", "_law_due", "_law_lexer", "_law_read", "_law_back", "_law_alone", "_law_stems"] : List String).map Str.ofString
noncomputable def qq : Program := { pw with main := { pw.main with body := pw.main.body.drop 54 } }
noncomputable abbrev Xt (s : Shared) : Bool := recOk (RowW.records PySem.Challenge.rw_kl0187_01.row.toRowW) s
theorem ran (w : World) : (fun os : OsState => (segRunT treeTable pw w 29 (some (.ref 6)) 1 6000 (S1 w os) (piecesOf bd env1 cE p0 [topFrame p0])).map (fun r => (r.1, r.2.2.1, (staticsOk (importedModules pw.main.body) (H0 w.params) r.2.1.abs.heap && namesBound pw r.2.1.abs.heap && gensDone r.2.1.abs && laidKept (H0 w.params) r.2.1.abs.heap), openSeen qq loose (importedModules pw.main.body) Xt true r.2.1.abs, kAs.map r.2.1.abs.heap.get?))) = fun _ => some (.next, cE, true, openGood qq loose, (frag w.params).map fun p => some p.2) := by
  rw [PySem.W.Fast.te10110043849684766642, PySem.W.Fast.te14364793385576792824, PySem.W.Fast.te4187177175401517315, PySem.W.Fast.te5923862056798008813]
  kernel_rfl
theorem size0 (w : World) : ((H0 w.params).isNs mainGlobals && (#[] : Array GenState).size == 0, (H0 w.params).objs.size, (H0 w.params).nsMap mainGlobals "__annotations__") = (true, 29, some (.ref 6)) := by kernel_rfl
theorem joined {w : World} {os : OsState} {n : Nat} {s' : SharedT} {p : Pos} (hs : segRunT treeTable pw w 29 (some (.ref 6)) 1 n (S1 w os) (piecesOf bd env1 cE p0 [topFrame p0]) = some (.next, s', cE, p)) :
    topRun treeTable pw w 29 (some (.ref 6)) (12 + (1 + (n + 2))) ⟨H0 w.params, #[], {}, 273, os⟩ (topStub pw) = some s'.abs := by
  have r2 := piece_app (rest := []) (segRun_of hs) (piece_nil (fin w s'.abs p))
  rw [List.append_nil] at r2
  exact go_top (congrFun (pre w) os) (piece_block (congrFun (block w) os) r2)
theorem from_top {w : World} {s₀ s₁ : Shared} {n m : Nat} {ann : Option Value} (z1 : (s₀.heap.isNs mainGlobals && s₀.gens.size == 0) = true) (z2 : s₀.heap.objs.size = m) (z3 : s₀.heap.nsMap mainGlobals "__annotations__" = ann)
    (r : topRun treeTable pw w m ann n s₀ (topStub pw) = some s₁) (l : (staticsOk (importedModules pw.main.body) s₀.heap s₁.heap && namesBound pw s₁.heap && gensDone s₁ && laidKept s₀.heap s₁.heap) = true) : topFrom treeTable pw w n s₀ = some s₁ := by
  subst z2 z3
  unfold topFrom
  rw [z1, r]
  show (match staticsOk (importedModules pw.main.body) s₀.heap s₁.heap && namesBound pw s₁.heap && gensDone s₁ && laidKept s₀.heap s₁.heap with | true => _ | false => _) = _
  rw [l]
theorem left_of {w : World} {s₀ s₁ : Shared} {n : Nat} (o : fencedOpening treeTable pw w n = some s₀) (t : topFrom treeTable pw w n s₀ = some s₁) {α β : Type} {f : Shared → α} {g : Shared → β} {x : α} {y : β} (a : f s₁ = x) (b : g s₁ = y) :
    (openEnds treeTable pw w n).map (fun s => (f s, g s)) = some (x, y) := by
  unfold openEnds
  rw [o]
  show (topFrom treeTable pw w n _).map _ = _
  rw [t]
  exact congrArg some (Prod.ext a b)
theorem left : LeftO pw qq loose Xt (fun s => kAs.map s.heap.get?) (fun w => (frag w.params).map fun p => some p.2) 12048 := fun w => by
  obtain ⟨⟨h, gs, d, k, os⟩, e, e'⟩ := Option.map_eq_some_iff.mp (opens w)
  obtain ⟨rfl, e'⟩ := Prod.mk.inj e'
  obtain ⟨rfl, e'⟩ := Prod.mk.inj e'
  obtain ⟨rfl, rfl⟩ := Prod.mk.inj e'
  obtain ⟨z1, z23⟩ := Prod.mk.inj (size0 w)
  obtain ⟨z2, z3⟩ := Prod.mk.inj z23
  obtain ⟨⟨f, s', c, p⟩, hs, hl⟩ := Option.map_eq_some_iff.mp (congrFun (ran w) os)
  obtain ⟨rfl, hl⟩ := Prod.mk.inj hl
  obtain ⟨rfl, hl⟩ := Prod.mk.inj hl
  obtain ⟨l1, hl⟩ := Prod.mk.inj hl
  obtain ⟨l2, l3⟩ := Prod.mk.inj hl
  have r := topRun_mono 6033 _ _ _ _ (joined hs)
  rw [show 12 + (1 + (6000 + 2)) + 6033 = 12048 from rfl] at r
  exact left_of e (from_top (s₀ := ⟨H0 w.params, #[], {}, 273, os⟩) z1 z2 z3 r l1) l2 l3
theorem hk_says (w : World) (s : Shared) (e : kAs.map s.heap.get? = (frag w.params).map fun p => some p.2) : (frag w.params).In s.heap := Frag.in_of (by kernel_rfl) e
theorem holds_of {d : DefRec} {kwd : List (Str × PySem.Expr)} (hdef : defOf qq rwl.row.name = some (d, kwd)) (hp : rwl.row.prog.theDef rwl.row.name = some (d.params, d.body, d.scope)) (hk : kwWritten? d.params.kwonlyargs d.params.kw_defaults = some kwd)
    (H : WalkO qq loose (fun _ _ => True) (fun w h => (frag w.params).In h) rwl.row.toRowW d kwd fun f vs => PySem.call f vs) : PySem.Challenge.rw_kl0187_01.Holds :=
  holds_law said fun hs => holds_open (r := rwl.row) (q := qq) (loose := loose) (Xt := Xt) (XP := fun _ _ => True) (YP := fun w h => (frag w.params).In h) left hk_says (fun w h h' x k => Frag.In.keeps x k) (fun _ _ => trivial) (fun _ _ _ _ _ => trivial) hdef hp hk (fun s e => recFacts_of e) (by decide +kernel) hs (by decide +kernel) ⟨rfl, rfl, rfl, rfl, rfl, by decide +kernel⟩ (by w_witness2) H
end MineH
end
section
set_option tactic.hygienic true
open PySem
namespace Mine
noncomputable abbrev T := List Nat
noncomputable def S (l : T) : Str := ⟨l.toArray⟩
theorem S_len (l : T) : (S l).length = l.length := by simp [S, Str.length]
theorem S_append (a b : T) : S a ++ S b = S (a ++ b) := by
  show Str.append (S a) (S b) = S (a ++ b)
  simp [S, Str.append]
theorem S_inj {a b : T} (h : S a = S b) : a = b := by
  have := congrArg (fun s : Str => s.cps.toList) h
  simpa [S] using this
theorem S_beq (a b : T) : (S a == S b) = decide (a = b) := by
  by_cases h : a = b
  · subst h; simp
  · have : S a ≠ S b := fun e => h (S_inj e)
    simp [h, this]
theorem S_bne (a b : T) : (S a != S b) = !decide (a = b) := by rw [bne, S_beq]
theorem S_of (x : Str) : x = S x.cps.toList := by cases x; simp [S]
theorem S_cps (l : T) : (S l).cps.toList = l := by simp [S]

noncomputable def splitT (c : Nat) : T → List T
  | [] => [[]]
  | d :: r => if d = c then [] :: splitT c r else match splitT c r with
    | [] => [[d]]
    | p :: ps => (d :: p) :: ps
noncomputable def joinT (sep : T) : List T → T
  | [] => []
  | [x] => x
  | x :: y :: r => x ++ sep ++ joinT sep (y :: r)
theorem splitT_ne (c : Nat) (a : T) : splitT c a ≠ [] := by
  cases a with
  | nil => simp [splitT]
  | cons d r =>
    simp only [splitT]
    split
    · simp
    · split <;> simp
theorem splitT_free_one {c : Nat} {p : T} (h : c ∉ p) : splitT c p = [p] := by
  induction p with
  | nil => rfl
  | cons d r ih =>
    have hd : d ≠ c := fun e => h (by rw [e]; exact .head _)
    have hr : c ∉ r := fun m => h (.tail _ m)
    simp only [splitT, if_neg hd, ih hr]
theorem splitT_pre {c : Nat} {p a : T} (h : c ∉ p) : splitT c (p ++ c :: a) = p :: splitT c a := by
  induction p with
  | nil => simp [splitT]
  | cons d r ih =>
    have hd : d ≠ c := fun e => h (by rw [e]; exact .head _)
    have hr : c ∉ r := fun m => h (.tail _ m)
    simp only [List.cons_append, splitT, if_neg hd, ih hr]
theorem splitT_join {c : Nat} : ∀ {ps : List T}, ps ≠ [] → (∀ p ∈ ps, c ∉ p) → splitT c (joinT [c] ps) = ps
  | [], h, _ => absurd rfl h
  | [p], _, h => splitT_free_one (h p (.head _))
  | p :: q :: r, _, h => by
    have ih := splitT_join (c := c) (ps := q :: r) (by simp) (fun x hx => h x (.tail _ hx))
    simp only [joinT, List.append_assoc, List.singleton_append]
    rw [splitT_pre (h p (.head _)), ih]
theorem join_S (z : T) : ∀ l : List T, Str.join (S z) (l.map S) = S (joinT z l)
  | [] => rfl
  | [x] => rfl
  | x :: y :: r => by
    have ih := join_S z (y :: r)
    simp only [List.map_cons] at ih
    simp only [List.map_cons, Str.join, joinT, ih, S_append]
theorem split_S (a : T) (c : Nat) : Txt.split (S a) (S [c]) = (splitT c a).map S := by
  have h1 := StrLaws.join_split (S a) (S [c])
  have h2 := StrLaws.split_free (S a) c
  have e : (⟨#[c]⟩ : Str) = S [c] := rfl
  rw [e] at h2
  generalize hl : Txt.split (S a) (S [c]) = l at h1 h2
  have hm : l = (l.map fun s : Str => s.cps.toList).map S := by
    rw [List.map_map]
    exact (List.map_id' l).symm.trans (List.map_congr_left fun x _ => S_of x)
  have hne : l ≠ [] := by
    intro h0
    rw [← hl] at h0
    unfold Txt.split at h0
    split at h0
    · cases h0
    · split at h0
      · cases h0
      · unfold Builtin.Str.partsBetween at h0
        simp at h0
  rw [hm, join_S] at h1
  have h3 := S_inj h1
  rw [hm]
  congr 1
  rw [← h3, splitT_join]
  · simpa using hne
  · intro p hp
    obtain ⟨x, hx, rfl⟩ := List.mem_map.mp hp
    exact h2 x hx
noncomputable def replT (c : Nat) (z : T) (a : T) : T := a.flatMap fun d => if d = c then z else [d]
theorem joinT_cons (z p : T) {l : List T} (h : l ≠ []) : joinT z (p :: l) = p ++ z ++ joinT z l := by
  cases l with
  | nil => exact absurd rfl h
  | cons x r => rfl
theorem joinT_head (z : T) (d : Nat) (p : T) (l : List T) : joinT z ((d :: p) :: l) = d :: joinT z (p :: l) := by
  cases l <;> simp [joinT]
theorem replT_join (c : Nat) (z a : T) : joinT z (splitT c a) = replT c z a := by
  induction a with
  | nil => rfl
  | cons d r ih =>
    unfold replT at ih ⊢
    rw [List.flatMap_cons, ← ih]
    simp only [splitT]
    split
    · rw [joinT_cons z [] (splitT_ne c r)]; rfl
    · split
      · rename_i h; exact absurd h (splitT_ne c r)
      · rename_i p ps h
        rw [joinT_head, h]; rfl
theorem replace_S (a z : T) (c : Nat) : Txt.replace (S a) (S [c]) (S z) = S (replT c z a) := by
  have h := StrLaws.replace_one (S a) (S z) c
  have e : (⟨#[c]⟩ : Str) = S [c] := rfl
  rw [e] at h
  rw [h, split_S, join_S, replT_join]
theorem in_S (a : T) (c : Nat) : (!(Builtin.Str.occurrences (S a) (S [c]) 0 (S a).length 1).isEmpty) = decide (c ∈ a) := by
  have := StrLaws.found_one (S a) c
  rw [S_cps] at this
  exact this
inductive Ex2 {α0 α1 : Type} (P : α0 → α1 → Prop) : Prop
  | mk (x0 : α0) (x1 : α1) (h : P x0 x1)
inductive Ex3 {α0 α1 α2 : Type} (P : α0 → α1 → α2 → Prop) : Prop
  | mk (x0 : α0) (x1 : α1) (x2 : α2) (h : P x0 x1 x2)
inductive Ex4 {α0 α1 α2 α3 : Type} (P : α0 → α1 → α2 → α3 → Prop) : Prop
  | mk (x0 : α0) (x1 : α1) (x2 : α2) (x3 : α3) (h : P x0 x1 x2 x3)
inductive Ex5 {α0 α1 α2 α3 α4 : Type} (P : α0 → α1 → α2 → α3 → α4 → Prop) : Prop
  | mk (x0 : α0) (x1 : α1) (x2 : α2) (x3 : α3) (x4 : α4) (h : P x0 x1 x2 x3 x4)
inductive Ex6 {α0 α1 α2 α3 α4 α5 : Type} (P : α0 → α1 → α2 → α3 → α4 → α5 → Prop) : Prop
  | mk (x0 : α0) (x1 : α1) (x2 : α2) (x3 : α3) (x4 : α4) (x5 : α5) (h : P x0 x1 x2 x3 x4 x5)
inductive Ex7 {α0 α1 α2 α3 α4 α5 α6 : Type} (P : α0 → α1 → α2 → α3 → α4 → α5 → α6 → Prop) : Prop
  | mk (x0 : α0) (x1 : α1) (x2 : α2) (x3 : α3) (x4 : α4) (x5 : α5) (x6 : α6) (h : P x0 x1 x2 x3 x4 x5 x6)
inductive Ex8 {α0 α1 α2 α3 α4 α5 α6 α7 : Type} (P : α0 → α1 → α2 → α3 → α4 → α5 → α6 → α7 → Prop) : Prop
  | mk (x0 : α0) (x1 : α1) (x2 : α2) (x3 : α3) (x4 : α4) (x5 : α5) (x6 : α6) (x7 : α7) (h : P x0 x1 x2 x3 x4 x5 x6 x7)
inductive Ex10 {α0 α1 α2 α3 α4 α5 α6 α7 α8 α9 : Type} (P : α0 → α1 → α2 → α3 → α4 → α5 → α6 → α7 → α8 → α9 → Prop) : Prop
  | mk (x0 : α0) (x1 : α1) (x2 : α2) (x3 : α3) (x4 : α4) (x5 : α5) (x6 : α6) (x7 : α7) (x8 : α8) (x9 : α9) (h : P x0 x1 x2 x3 x4 x5 x6 x7 x8 x9)
inductive Ex11 {α0 α1 α2 α3 α4 α5 α6 α7 α8 α9 α10 : Type} (P : α0 → α1 → α2 → α3 → α4 → α5 → α6 → α7 → α8 → α9 → α10 → Prop) : Prop
  | mk (x0 : α0) (x1 : α1) (x2 : α2) (x3 : α3) (x4 : α4) (x5 : α5) (x6 : α6) (x7 : α7) (x8 : α8) (x9 : α9) (x10 : α10) (h : P x0 x1 x2 x3 x4 x5 x6 x7 x8 x9 x10)
inductive A3 (p0 p1 p2 : Prop) : Prop
  | mk (h0 : p0) (h1 : p1) (h2 : p2)
inductive A4 (p0 p1 p2 p3 : Prop) : Prop
  | mk (h0 : p0) (h1 : p1) (h2 : p2) (h3 : p3)
inductive A5 (p0 p1 p2 p3 p4 : Prop) : Prop
  | mk (h0 : p0) (h1 : p1) (h2 : p2) (h3 : p3) (h4 : p4)
inductive A6 (p0 p1 p2 p3 p4 p5 : Prop) : Prop
  | mk (h0 : p0) (h1 : p1) (h2 : p2) (h3 : p3) (h4 : p4) (h5 : p5)
inductive A7 (p0 p1 p2 p3 p4 p5 p6 : Prop) : Prop
  | mk (h0 : p0) (h1 : p1) (h2 : p2) (h3 : p3) (h4 : p4) (h5 : p5) (h6 : p6)
inductive A8 (p0 p1 p2 p3 p4 p5 p6 p7 : Prop) : Prop
  | mk (h0 : p0) (h1 : p1) (h2 : p2) (h3 : p3) (h4 : p4) (h5 : p5) (h6 : p6) (h7 : p7)
theorem lit_le {a b x : Nat} (h : b ≤ x) (k : Nat.ble a b = true) : a ≤ x := Nat.le_trans (Nat.le_of_ble_eq_true k) h
theorem lit_eq {a b x : Nat} (h : x = b) (k : Nat.ble a b = true) : a ≤ x := by rw [h]; exact Nat.le_of_ble_eq_true k
end Mine
end
section
open PySem
set_option tactic.hygienic false
namespace Mine
noncomputable def tx (s : String) : T := (Str.ofString s).cps.toList
theorem tx_S (s : String) : Str.ofString s = S (tx s) := S_of _
inductive Forest
  | nil
  | leaf (name : T) (way : Nat) (gap : T) (rest : Forest)
  | node (name : T) (way : Nat) (gap : T) (below rest : Forest)
namespace Forest
noncomputable def depth : Forest → Nat
  | nil => 0
  | leaf _ _ _ r => r.depth
  | node _ _ _ d r => max (d.depth + 1) r.depth
noncomputable def count : Forest → Nat
  | nil => 0
  | leaf _ _ _ r => r.count + 1
  | node _ _ _ d r => d.count + 1 + r.count
noncomputable def top : Forest → Nat
  | nil => 0
  | leaf _ _ _ r => r.top + 1
  | node _ _ _ _ r => r.top + 1
theorem szL {n w g r} : sizeOf r < sizeOf (Forest.leaf n w g r) := by simp only [Forest.leaf.sizeOf_spec]; lia
theorem szD {n w g d r} : sizeOf d < sizeOf (Forest.node n w g d r) := by simp only [Forest.node.sizeOf_spec]; lia
theorem szR {n w g d r} : sizeOf r < sizeOf (Forest.node n w g d r) := by simp only [Forest.node.sizeOf_spec]; lia
end Forest
noncomputable def spell (name : T) (way : Nat) : T :=
  if way = 0 then tx "'" ++ replT 39 (tx "'\"'\"'") name ++ tx "'"
  else if way = 1 then tx "\"" ++ replT 34 (tx "\\\"") (replT 92 (tx "\\\\") name) ++ tx "\""
  else joinT (tx "") (name.map fun d => tx "\\" ++ [d])
noncomputable def wrapF (gap : T) (rows : List T) : T := tx "{" ++ gap ++ joinT (tx "," ++ gap) rows ++ tx "}" ++ gap
noncomputable def rowsF : Forest → List T
  | .nil => []
  | .leaf n w g r => (spell n w ++ g ++ tx "") :: rowsF r
  | .node n w g d r => (spell n w ++ g ++ wrapF g (rowsF d)) :: rowsF r
noncomputable def freeF (f : Forest) (gap : T) : T := wrapF gap (rowsF f)
noncomputable def wrapP (rows : List T) : T := tx "{" ++ joinT (tx ",") rows ++ tx "}"
noncomputable def rowsP : Forest → List T
  | .nil => []
  | .leaf n _ _ r => (spell n 0 ++ tx "") :: rowsP r
  | .node n _ _ d r => (spell n 0 ++ wrapP (rowsP d)) :: rowsP r
noncomputable def plainF (f : Forest) : T := wrapP (rowsP f)
noncomputable def oneIf (f : Forest) (x : T) : List T := match f with
  | .nil => [x]
  | _ => []
noncomputable def dueR : Forest → T → List T
  | .nil, _ => []
  | .leaf n _ _ r, front => (front ++ n) :: dueR r front
  | .node n _ _ d r, front => (oneIf d (front ++ n ++ tx "/") ++ dueR d (front ++ n ++ tx "/")) ++ dueR r front
noncomputable def dueF (f : Forest) (front : T) : List T := oneIf f front ++ dueR f front
noncomputable def aloneF : Forest → List T
  | .leaf n _ _ .nil => [n]
  | .node n _ _ d .nil => n :: aloneF d
  | _ => []
structure NameOk (n : T) : Prop where
  ne : n ≠ []
  sl : 47 ∉ n
  dot : n ≠ [46]
  short : n.length ≤ 16
  fin : ∃ b d, n = b ++ [d] ∧ 48 ≤ d ∧ d ≤ 57
noncomputable def Forest.Ok : Forest → Prop
  | .nil => True
  | .leaf n w g r => NameOk n ∧ w < 3 ∧ (g = tx "" ∨ g = tx " " ∨ g = tx "\n\t" ∨ g = tx "# },{'\n") ∧ r.Ok
  | .node n w g d r => NameOk n ∧ w < 3 ∧ (g = tx "" ∨ g = tx " " ∨ g = tx "\n\t" ∨ g = tx "# },{'\n") ∧ d.Ok ∧ r.Ok
noncomputable def Gap (g : T) : Prop := g = tx "" ∨ g = tx " " ∨ g = tx "\n\t" ∨ g = tx "# },{'\n"
theorem Gap.len {g : T} (h : Gap g) : g.length ≤ 7 := by
  rcases h with h | h | h | h <;> rw [h] <;> decide
theorem replT_len (c : Nat) (z a : T) (hz : 1 ≤ z.length) : (replT c z a).length ≤ z.length * a.length := by
  unfold replT
  induction a with
  | nil => simp
  | cons d r ih =>
    rw [List.flatMap_cons, List.length_append, List.length_cons, Nat.mul_add, Nat.mul_one]
    split
    · lia
    · simp only [List.length_cons, List.length_nil]; lia
theorem joinT_len (z : T) : ∀ ps : List T, (joinT z ps).length ≤ (ps.map (·.length)).sum + z.length * ps.length
  | [] => by simp [joinT]
  | [x] => by simp [joinT]
  | x :: y :: r => by
    have := joinT_len z (y :: r)
    simp only [joinT, List.length_append, List.map_cons, List.sum_cons, List.length_cons, Nat.mul_add] at this ⊢
    lia
theorem joinT_nil_map (f : Nat → T) (n : T) (h : ∀ d, (f d).length = 2) : (joinT (tx "") (n.map f)).length ≤ 2 * n.length := by
  have := joinT_len (tx "") (n.map f)
  have e : ∀ n : T, ((n.map f).map (·.length)).sum = 2 * n.length := by
    intro n
    induction n with
    | nil => rfl
    | cons d r ih => simp only [List.map_cons, List.sum_cons, List.length_cons, ih, h]; lia
  have e0 : (tx "").length = 0 := by decide
  rw [e, e0] at this
  lia
theorem spell_len (n : T) (w : Nat) : (spell n w).length ≤ 5 * n.length + 2 := by
  unfold spell
  have h1 := replT_len 39 (tx "'\"'\"'") n (by decide)
  have h2 := replT_len 92 (tx "\\\\") n (by decide)
  have h3 := replT_len 34 (tx "\\\"") (replT 92 (tx "\\\\") n) (by decide)
  have h4 := joinT_nil_map (fun d => tx "\\" ++ [d]) n (fun d => by simp [show (tx "\\").length = 1 by decide])
  have e1 : (tx "'\"'\"'").length = 5 := by decide
  have e2 : (tx "\\\\").length = 2 := by decide
  have e3 : (tx "\\\"").length = 2 := by decide
  have e4 : (tx "'").length = 1 := by decide
  have e5 : (tx "\"").length = 1 := by decide
  rw [e1] at h1; rw [e2] at h2; rw [e3] at h3
  split
  · simp only [List.length_append]; lia
  · split
    · simp only [List.length_append]; lia
    · lia
noncomputable def Forest.mass : Forest → Nat
  | .nil => 0
  | .leaf _ _ _ r => r.mass + 120
  | .node _ _ _ d r => d.mass + 150 + r.mass
theorem Forest.mass_le : ∀ f : Forest, f.mass ≤ 150 * f.count
  | .nil => by simp [mass, count]
  | .leaf _ _ _ r => by have := mass_le r; simp only [mass, count]; lia
  | .node _ _ _ d r => by have := mass_le r; have := mass_le d; simp only [mass, count]; lia
noncomputable def sumL (ts : List T) : Nat := (ts.map (·.length)).sum
theorem sumL_cons (x : T) (ts) : sumL (x :: ts) = x.length + sumL ts := by simp [sumL]
theorem sumL_append (a b : List T) : sumL (a ++ b) = sumL a + sumL b := by simp [sumL]
theorem wrapF_len {g : T} (hg : g.length ≤ 7) (rows : List T) : (wrapF g rows).length ≤ sumL rows + 8 * rows.length + 16 := by
  unfold wrapF
  have h := joinT_len (tx "," ++ g) rows
  have e1 : (tx ",").length = 1 := by decide
  have e2 : (tx "{").length = 1 := by decide
  have e3 : (tx "}").length = 1 := by decide
  simp only [List.length_append, e1, e2, e3] at h ⊢
  have : (1 + g.length) * rows.length ≤ 8 * rows.length := Nat.mul_le_mul_right _ (by lia)
  unfold sumL
  lia
theorem rowsF_len : ∀ f : Forest, (rowsF f).length = f.top
  | .nil => rfl
  | .leaf _ _ _ r => by simp [rowsF, Forest.top, rowsF_len r]
  | .node _ _ _ _ r => by simp [rowsF, Forest.top, rowsF_len r]
theorem rowsP_len : ∀ f : Forest, (rowsP f).length = f.top
  | .nil => rfl
  | .leaf _ _ _ r => by simp [rowsP, Forest.top, rowsP_len r]
  | .node _ _ _ _ r => by simp [rowsP, Forest.top, rowsP_len r]
theorem Forest.top_le : ∀ f : Forest, f.top ≤ f.count
  | .nil => Nat.le_refl _
  | .leaf _ _ _ r => by have := top_le r; simp only [top, count]; lia
  | .node _ _ _ d r => by have := top_le r; simp only [top, count]; lia
theorem rowsF_sum : ∀ f : Forest, f.Ok → sumL (rowsF f) + 8 * (rowsF f).length ≤ f.mass
  | .nil, _ => by simp [rowsF, sumL, Forest.mass]
  | .leaf n w g r, ⟨hn, hw, hg, hr⟩ => by
    have ih := rowsF_sum r hr
    have h1 := spell_len n w
    have h2 := hn.short
    have h3 := Gap.len hg
    have e0 : (tx "").length = 0 := by decide
    simp only [rowsF, sumL_cons, List.length_append, List.length_cons, Forest.mass, e0]
    lia
  | .node n w g d r, ⟨hn, hw, hg, hd, hr⟩ => by
    have ih := rowsF_sum r hr
    have ihd := rowsF_sum d hd
    have h1 := spell_len n w
    have h2 := hn.short
    have h3 := Gap.len hg
    have h4 := wrapF_len h3 (rowsF d)
    simp only [rowsF, sumL_cons, List.length_append, List.length_cons, Forest.mass]
    lia
theorem wrapP_len (rows : List T) : (wrapP rows).length ≤ sumL rows + rows.length + 2 := by
  unfold wrapP
  have h := joinT_len (tx ",") rows
  have e1 : (tx ",").length = 1 := by decide
  have e2 : (tx "{").length = 1 := by decide
  have e3 : (tx "}").length = 1 := by decide
  simp only [List.length_append, e1, e2, e3] at h ⊢
  unfold sumL
  lia
theorem rowsP_sum : ∀ f : Forest, f.Ok → sumL (rowsP f) + (rowsP f).length ≤ f.mass
  | .nil, _ => by simp [rowsP, sumL, Forest.mass]
  | .leaf n w g r, ⟨hn, hw, hg, hr⟩ => by
    have ih := rowsP_sum r hr
    have h1 := spell_len n 0
    have h2 := hn.short
    have e0 : (tx "").length = 0 := by decide
    simp only [rowsP, sumL_cons, List.length_append, List.length_cons, Forest.mass, e0]
    lia
  | .node n w g d r, ⟨hn, hw, hg, hd, hr⟩ => by
    have ih := rowsP_sum r hr
    have ihd := rowsP_sum d hd
    have h1 := spell_len n 0
    have h2 := hn.short
    have h4 := wrapP_len (rowsP d)
    simp only [rowsP, sumL_cons, List.length_append, List.length_cons, Forest.mass]
    lia
theorem oneIf_len (f : Forest) (x : T) : (oneIf f x).length ≤ 1 := by cases f <;> simp [oneIf]
theorem dueR_len : ∀ (f : Forest) (x : T), (dueR f x).length ≤ f.count
  | .nil, _ => by simp [dueR]
  | .leaf _ _ _ r, x => by have := dueR_len r x; simp only [dueR, List.length_cons, Forest.count]; lia
  | .node n _ _ d r, x => by
    have := dueR_len r x
    have h2 := dueR_len d (x ++ n ++ tx "/")
    have h3 := oneIf_len d (x ++ n ++ tx "/")
    simp only [dueR, List.length_append, Forest.count]; lia
theorem oneIf_mem {f : Forest} {x y : T} (h : y ∈ oneIf f x) : y = x := by cases f <;> simp [oneIf] at h; exact h
theorem dueR_mem : ∀ (f : Forest) (x : T), f.Ok → ∀ y ∈ dueR f x, y.length ≤ x.length + 17 * f.depth + 16
  | .nil, _, _, y, hy => by simp [dueR] at hy
  | .leaf n _ _ r, x, ⟨hn, _, _, hr⟩, y, hy => by
    have hs := hn.short
    rcases List.mem_cons.mp hy with e | hy
    · rw [e, List.length_append]; lia
    · exact dueR_mem r x hr y hy
  | .node n _ _ d r, x, ⟨hn, _, _, hd, hr⟩, y, hy => by
    have hs := hn.short
    have e1 : (tx "/").length = 1 := by decide
    simp only [Forest.depth]
    have m1 := Nat.le_max_left (d.depth + 1) r.depth
    have m2 := Nat.le_max_right (d.depth + 1) r.depth
    generalize max (d.depth + 1) r.depth = M at m1 m2 ⊢
    rcases List.mem_append.mp hy with hy | hy
    · rcases List.mem_append.mp hy with hy | hy
      · rw [oneIf_mem hy]; simp only [List.length_append, e1]; lia
      · have := dueR_mem d _ hd y hy
        simp only [List.length_append, e1] at this; lia
    · have := dueR_mem r x hr y hy; lia
end Mine
end
section
set_option tactic.hygienic true
open PySem PySem.Builtin.Str
namespace Mine
theorem sw_one (a : T) (d : Nat) : Txt.startswith (S a) (S [d]) = decide (a[0]? = some d) := by
  have h := StrLaws.subAt_one (S a) d 0
  have e : (⟨#[d]⟩ : Str) = S [d] := rfl
  rw [e, S_cps] at h
  unfold Txt.startswith
  by_cases hc : a[0]? = some d
  · obtain ⟨h1, h2⟩ := h.mpr hc
    rw [h2, hc]; simp; simpa using h1
  · rw [decide_eq_false hc]
    cases q : subAt (S a) (S [d]) 0 with
    | false => simp
    | true =>
      by_cases hl : 0 + (S [d]).length ≤ (S a).length
      · exact absurd (h.mp ⟨hl, q⟩) hc
      · simp; simpa using hl
theorem ew_one (a : T) (d : Nat) : Txt.endswith (S a) (S [d]) = decide (a.getLast? = some d) := by
  have h := StrLaws.subAt_one (S a) d (a.length - 1)
  have e : (⟨#[d]⟩ : Str) = S [d] := rfl
  rw [e, S_cps, S_len, S_len] at h
  unfold Txt.endswith
  rw [S_len, S_len, List.getLast?_eq_getElem?]
  have e1 : ([d] : T).length = 1 := rfl
  rw [e1] at h ⊢
  by_cases hc : a[a.length - 1]? = some d
  · obtain ⟨h1, h2⟩ := h.mpr hc
    rw [h2, hc]; simp
    have := (List.getElem?_eq_some_iff.mp hc).1
    lia
  · rw [decide_eq_false hc]
    cases q : subAt (S a) (S [d]) (a.length - 1) with
    | false => simp
    | true =>
      by_cases hl : 1 ≤ a.length
      · exact absurd (h.mp ⟨by lia, q⟩) hc
      · simp only [Bool.and_true, decide_eq_false_iff_not]; lia
theorem rf_none {a : T} {d : Nat} (h : d ∉ a) : Txt.rfind (S a) (S [d]) = -1 := by
  rcases PyProof.Rows.rfind_whole (S a) (S [d]) with ⟨e, _⟩ | ⟨i, _, hA, _⟩
  · exact e
  · have := (StrLaws.subAt_one (S a) d i).mp hA
    rw [S_cps] at this
    exact absurd (List.mem_of_getElem? this) h
theorem rf_some {b e : T} {d : Nat} (h : d ∉ e) : Txt.rfind (S (b ++ d :: e)) (S [d]) = b.length := by
  rcases PyProof.Rows.rfind_whole (S (b ++ d :: e)) (S [d]) with ⟨_, hn⟩ | ⟨i, hi, hA, hl⟩
  · exact absurd ((StrLaws.subAt_one (S (b ++ d :: e)) d b.length).mpr (by rw [S_cps]; simp)) (hn _)
  · rw [hi]
    have h1 := (StrLaws.subAt_one (S (b ++ d :: e)) d i).mp hA
    rw [S_cps] at h1
    have h2 : ¬ i < b.length := fun hlt => hl b.length hlt ((StrLaws.subAt_one (S (b ++ d :: e)) d b.length).mpr (by rw [S_cps]; simp))
    have h3 : ¬ b.length < i := fun hlt => by
      rw [List.getElem?_append_right (by lia)] at h1
      obtain ⟨k, hk⟩ : ∃ k, i - b.length = k + 1 := ⟨i - b.length - 1, (Nat.succ_pred_eq_of_pos (Nat.sub_pos_of_lt (by lia))).symm⟩
      rw [hk, List.getElem?_cons_succ] at h1
      exact h (List.mem_of_getElem? h1)
    lia
theorem slice_to {a : T} {j : Int} (h0 : 0 ≤ j) (h2 : j ≤ a.length) : Txt.slice (S a) none (some j) = S (a.take j.toNat) := by
  have := eq_of_beq (PyProof.Rows.slice_closes_toL (x := S a) (j := j) h0 (by rw [S_len]; exact h2))
  rw [this, S_cps]
  simp [S]
theorem slice_from {a : T} {j : Int} (h0 : 0 ≤ j) (h2 : j ≤ a.length) : Txt.slice (S a) (some j) none = S (a.drop j.toNat) := by
  have := eq_of_beq (PyProof.Rows.slice_closes_fromL (x := S a) (i := j) (b := a.length) h0 (by rw [S_len]; exact h2) (by rw [S_len]))
  rw [this, S_cps]
  have e : ((a.length : Int) - j).toNat = (a.drop j.toNat).length := by
    rw [List.length_drop]
    obtain ⟨k, rfl⟩ := Int.eq_ofNat_of_zero_le h0
    exact Int.toNat_sub _ _
  rw [e, List.take_length]; rfl
theorem slice_ft {a : T} {i j : Int} (h0 : 0 ≤ i) (h1 : i ≤ j) (h2 : j ≤ a.length) : Txt.slice (S a) (some i) (some j) = S ((a.drop i.toNat).take (j - i).toNat) := by
  have := eq_of_beq (PyProof.Rows.slice_closesL (x := S a) (i := i) (j := j) h0 h1 (by rw [S_len]; exact h2))
  rw [this, S_cps]; rfl
theorem slice_but {a : T} {d : Nat} : Txt.slice (S (a ++ [d])) none (some (-1)) = S a := by
  have := eq_of_beq (PyProof.Rows.slice_closes_to_neg (x := S (a ++ [d])) (j := -1) (k := a.length) (by lia) (by rw [S_len]; simp; lia) (by rw [S_len]; simp; lia))
  rw [this, S_cps]
  simp [S]
theorem rstrip_one {b : T} {d : Nat} (h : b.getLast? ≠ some d) : Txt.rstripChars (S (b ++ [d])) (S [d]) = S b := by
  have hc : ∀ k, (S [d]).cps.contains k = decide (k = d) := by
    intro k
    simp [S]
  have hi : stripHi (S [d]).cps.contains true (S (b ++ [d])) 0 = b.length := by
    unfold stripHi
    rw [if_pos rfl, S_cps, S_len]
    have : ((b ++ [d]).drop 0).reverse.takeWhile (S [d]).cps.contains = [d] := by
      rw [List.drop_zero, List.reverse_append]
      simp only [List.reverse_cons, List.reverse_nil, List.nil_append, List.singleton_append]
      rw [List.takeWhile_cons, if_pos (by rw [hc]; simp)]
      congr 1
      cases hb : b.reverse with
      | nil => rfl
      | cons x r =>
        rw [List.takeWhile_cons, if_neg]
        rw [hc]
        have : b.getLast? = some x := by rw [← List.head?_reverse, hb]; rfl
        simp
        rintro rfl
        exact h this
    rw [this]
    simp
  have hs : stripped (S [d]).cps.contains false true (S (b ++ [d])) = S b := by
    unfold stripped stripLo
    rw [if_neg (by decide), hi]
    simp [strSub, S]
  unfold Txt.rstripChars Txt.stripBy
  split
  · rename_i hsame
    unfold stripSame stripLo at hsame
    rw [if_neg (by decide), hi, S_len] at hsame
    simp at hsame
  · exact hs
end Mine
end
section
open PySem
set_option tactic.hygienic false
namespace Mine
noncomputable def joinP (a b : T) : T := if b[0]? = some 47 ∨ a = [] then b else if a.getLast? = some 47 then a ++ b else a ++ (tx "/" ++ b)
theorem tx_slash : tx "/" = [47] := by rfl
structure SplitAt (p hd tl : T) : Prop where
  h : (47 ∉ p ∧ hd = [] ∧ tl = p) ∨ (p = hd ++ 47 :: tl ∧ 47 ∉ tl ∧ hd ≠ [] ∧ hd.getLast? ≠ some 47)
theorem SplitAt.some {hd tl : T} (h1 : 47 ∉ tl) (h2 : hd ≠ []) (h3 : hd.getLast? ≠ some 47) : SplitAt (hd ++ 47 :: tl) hd tl := ⟨.inr ⟨rfl, h1, h2, h3⟩⟩
theorem SplitAt.none {p : T} (h1 : 47 ∉ p) : SplitAt p [] p := ⟨.inl ⟨h1, rfl, rfl⟩⟩
theorem slashes_ne {hd : T} (h2 : hd ≠ []) (h3 : hd.getLast? ≠ some 47) (n : Nat) : hd ++ [47] ≠ List.replicate n 47 := by
  intro e
  have hm : ∀ x ∈ hd, x = 47 := fun x hx => List.eq_of_mem_replicate (e ▸ List.mem_append_left _ hx)
  apply h3
  rw [List.getLast?_eq_some_getLast h2]
  exact congrArg _ (hm _ (List.getLast_mem h2))

inductive Ev
  | word (n : T)
  | sign (d : Nat)
inductive LS
  | sp
  | qt (d : Nat)
  | es
  | ed
  | a
  | c
noncomputable def Punc (d : Nat) : Prop := d = 123 ∨ d = 44 ∨ d = 125
noncomputable def Wsp (d : Nat) : Prop := d = 32 ∨ d = 9 ∨ d = 10
noncomputable def Quo (d : Nat) : Prop := d = 39 ∨ d = 34
noncomputable def Wordy (tok : T) : Prop := ∃ b x, tok = b ++ [x] ∧ ¬ Punc x
noncomputable def Run (tok : T) : Prop := tok ≠ [] ∧ ∀ y ∈ tok, Punc y
inductive Go : LS → Bool → T → T → List Ev → Prop
  | sp_eof : Go .sp false [] [] []
  | sp_ws {d r E} : Wsp d → Go .sp false [] r E → Go .sp false [] (d :: r) E
  | sp_hash {e r E} : 10 ∉ e → Go .sp false [] r E → Go .sp false [] (35 :: (e ++ 10 :: r)) E
  | sp_esc {r E} : Go .es false [] r E → Go .sp false [] (92 :: r) E
  | sp_pun {d r E} : Punc d → Go .c false [d] r E → Go .sp false [] (d :: r) E
  | sp_quo {d r E} : Quo d → Go (.qt d) false [] r E → Go .sp false [] (d :: r) E
  | q_end {d q tok r E} : Quo d → Go .a true tok r E → Go (.qt d) q tok (d :: r) E
  | q_esc {q tok r E} : Go .ed true tok r E → Go (.qt 34) q tok (92 :: r) E
  | q_ch {d x q tok r E} : Quo d → x ≠ d → (x = 92 → d = 39) → Go (.qt d) true (tok ++ [x]) r E → Go (.qt d) q tok (x :: r) E
  | es {x q tok r E} : Go .a q (tok ++ [x]) r E → Go .es q tok (x :: r) E
  | ed {x q tok r E} : (x = 92 ∨ x = 34) → Go (.qt 34) q (tok ++ [x]) r E → Go .ed q tok (x :: r) E
  | a_ws {d q tok r E} : Wsp d → Wordy tok → Go .sp false [] r E → Go .a q tok (d :: r) (.word tok :: E)
  | a_hash {e q tok r E} : 10 ∉ e → Wordy tok → Go .sp false [] r E → Go .a q tok (35 :: (e ++ 10 :: r)) (.word tok :: E)
  | a_quo {d q tok r E} : Quo d → Go (.qt d) q tok r E → Go .a q tok (d :: r) E
  | a_esc {q tok r E} : Go .es q tok r E → Go .a q tok (92 :: r) E
  | a_pun {d q tok r E} : Punc d → Wordy tok → Go .sp false [] (d :: r) E → Go .a q tok (d :: r) (.word tok :: E)
  | c_eof {tok} : Run tok → Go .c false tok [] (tok.map .sign)
  | c_ws {d tok r E} : Wsp d → Run tok → Go .sp false [] r E → Go .c false tok (d :: r) (tok.map .sign ++ E)
  | c_hash {e tok r E} : 10 ∉ e → Run tok → Go .sp false [] r E → Go .c false tok (35 :: (e ++ 10 :: r)) (tok.map .sign ++ E)
  | c_pun {d tok r E} : Punc d → Go .c false (tok ++ [d]) r E → Go .c false tok (d :: r) E
  | c_oth {d tok r E} : (Quo d ∨ d = 92) → Run tok → Go .sp false [] (d :: r) E → Go .c false tok (d :: r) (tok.map .sign ++ E)
structure Ready (r : T) (E : List Ev) : Prop where
  s : Go .sp false [] r E
  c : ∀ tok, Run tok → Go .c false tok r (tok.map .sign ++ E)
noncomputable def Behind (r : T) (E : List Ev) : Prop := ∀ q tok, Wordy tok → Go .a q tok r (.word tok :: E)
theorem run_one {d : Nat} (h : Punc d) : Run [d] := ⟨by simp, fun y hy => by simp at hy; rw [hy]; exact h⟩
theorem run_snoc {tok : T} {d : Nat} (h : Run tok) (hd : Punc d) : Run (tok ++ [d]) := ⟨by simp, fun y hy => by
  rcases List.mem_append.mp hy with m | m
  · exact h.2 y m
  · simp at m; rw [m]; exact hd⟩
theorem Ready.pun {d : Nat} {r E} (hd : Punc d) (h : Ready r E) : Ready (d :: r) (.sign d :: E) :=
  ⟨.sp_pun hd (h.c [d] (run_one hd)), fun tok ht => .c_pun hd (by have := h.c (tok ++ [d]) (run_snoc ht hd); rw [List.map_append, List.append_assoc] at this; exact this)⟩
theorem Ready.nil : Go .sp false [] [] [] ∧ ∀ tok, Run tok → Go .c false tok [] (tok.map .sign) := ⟨.sp_eof, fun _ h => .c_eof h⟩
theorem Ready.stop {d : Nat} (hd : Punc d) : Ready [d] [.sign d] :=
  ⟨.sp_pun hd (.c_eof (run_one hd)), fun tok ht => .c_pun hd (by have := Go.c_eof (run_snoc ht hd); rw [List.map_append] at this; exact this)⟩
theorem Ready.ws {d : Nat} {r E} (hd : Wsp d) (h : Go .sp false [] r E) : Ready (d :: r) E := ⟨.sp_ws hd h, fun _ ht => .c_ws hd ht h⟩
theorem Ready.hash {e : T} {r E} (he : 10 ∉ e) (h : Go .sp false [] r E) : Ready (35 :: (e ++ 10 :: r)) E := ⟨.sp_hash he h, fun _ ht => .c_hash he ht h⟩
theorem Ready.gap {g : T} (hg : Gap g) {r E} (h : Ready r E) : Ready (g ++ r) E := by
  rcases hg with e | e | e | e <;> subst e
  · exact h
  · exact .ws (d := 32) (.inl rfl) h.s
  · exact .ws (d := 10) (.inr (.inr rfl)) (.sp_ws (d := 9) (.inr (.inl rfl)) h.s)
  · exact .hash (e := [32, 125, 44, 123, 39]) (by decide) h.s
theorem Behind.gap {g : T} (hg : Gap g) {d : Nat} {r E} (hd : Punc d) (h : Ready (d :: r) E) : Behind (g ++ d :: r) E := by
  intro q tok ht
  rcases hg with e | e | e | e <;> subst e
  · exact .a_pun hd ht h.s
  · exact .a_ws (d := 32) (.inl rfl) ht h.s
  · exact .a_ws (d := 10) (.inr (.inr rfl)) ht (.sp_ws (d := 9) (.inr (.inl rfl)) h.s)
  · exact .a_hash (e := [32, 125, 44, 123, 39]) (by decide) ht h.s
theorem NameOk.wordy {n : T} (h : NameOk n) : Wordy n := by
  obtain ⟨b, d, e, h1, h2⟩ := h.fin
  exact ⟨b, d, e, by unfold Punc; lia⟩
theorem quote_q {q tok r E} (h : Go (.qt 39) true (tok ++ [39]) r E) : Go (.qt 39) q tok (tx "'\"'\"'" ++ r) E :=
  .q_end (.inl rfl) (.a_quo (d := 34) (.inr rfl) (.q_ch (x := 39) (.inr rfl) (by decide) (by decide) (.q_end (.inr rfl) (.a_quo (d := 39) (.inl rfl) (by
    have : Go (.qt 39) true (tok ++ [39]) r E := h
    exact this)))))
theorem read_way0 : ∀ (n : T) {q tok r E}, (n ≠ [] → Go .a true (tok ++ n) r E) → (n = [] → Go .a true tok r E) → Go (.qt 39) q tok (replT 39 (tx "'\"'\"'") n ++ (39 :: r)) E
  | [], q, tok, r, E, _, h => .q_end (.inl rfl) (h rfl)
  | d :: n, q, tok, r, E, h, _ => by
    have ih : Go (.qt 39) true (tok ++ [d]) (replT 39 (tx "'\"'\"'") n ++ (39 :: r)) E := read_way0 n (fun hn => by have := h (by simp); rw [List.append_assoc]; exact this) (fun hn => by subst hn; exact h (by simp))
    by_cases hd : d = 39
    · subst hd
      have e : replT 39 (tx "'\"'\"'") (39 :: n) = tx "'\"'\"'" ++ replT 39 (tx "'\"'\"'") n := by simp [replT]
      rw [e, List.append_assoc]
      exact quote_q ih
    · have e : replT 39 (tx "'\"'\"'") (d :: n) = d :: replT 39 (tx "'\"'\"'") n := by simp [replT, hd]
      rw [e, List.cons_append]
      exact .q_ch (.inl rfl) hd (fun _ => rfl) ih
theorem read_way1 : ∀ (n : T) {q tok r E}, Go .a true (tok ++ n) r E → Go (.qt 34) q tok (replT 34 (tx "\\\"") (replT 92 (tx "\\\\") n) ++ (34 :: r)) E
  | [], q, tok, r, E, h => .q_end (.inr rfl) (by simpa using h)
  | d :: n, q, tok, r, E, h => by
    have ih : Go (.qt 34) true (tok ++ [d]) (replT 34 (tx "\\\"") (replT 92 (tx "\\\\") n) ++ (34 :: r)) E := read_way1 n (by rw [List.append_assoc]; exact h)
    by_cases hd : d = 92
    · subst hd
      have e : replT 34 (tx "\\\"") (replT 92 (tx "\\\\") (92 :: n)) = 92 :: 92 :: replT 34 (tx "\\\"") (replT 92 (tx "\\\\") n) := by
        have e1 : replT 92 (tx "\\\\") (92 :: n) = 92 :: 92 :: replT 92 (tx "\\\\") n := by simp [replT]; rfl
        rw [e1]; simp [replT]
      rw [e]
      exact .q_esc (.ed (.inl rfl) ih)
    · by_cases hd2 : d = 34
      · subst hd2
        have e : replT 34 (tx "\\\"") (replT 92 (tx "\\\\") (34 :: n)) = 92 :: 34 :: replT 34 (tx "\\\"") (replT 92 (tx "\\\\") n) := by
          have e1 : replT 92 (tx "\\\\") (34 :: n) = 34 :: replT 92 (tx "\\\\") n := by simp [replT]
          rw [e1]; simp [replT]; rfl
        rw [e]
        exact .q_esc (.ed (.inr rfl) ih)
      · have e : replT 34 (tx "\\\"") (replT 92 (tx "\\\\") (d :: n)) = d :: replT 34 (tx "\\\"") (replT 92 (tx "\\\\") n) := by
          have e1 : replT 92 (tx "\\\\") (d :: n) = d :: replT 92 (tx "\\\\") n := by simp [replT, hd]
          rw [e1]; simp [replT, hd2]
        rw [e]
        exact .q_ch (.inr rfl) hd2 (fun h => absurd h hd) ih
theorem joinT_esc (n : T) : joinT (tx "") (n.map fun d => tx "\\" ++ [d]) = n.flatMap fun d => [92, d] := by
  have e0 : tx "" = [] := rfl
  have e1 : tx "\\" = [92] := rfl
  rw [e0, e1]
  induction n with
  | nil => rfl
  | cons d n ih =>
    cases n with
    | nil => rfl
    | cons d2 n =>
      rw [List.map_cons, List.map_cons, joinT, List.flatMap_cons]
      rw [List.map_cons] at ih
      rw [ih]; rfl
theorem read_way2 : ∀ (n : T) {q tok r E}, Go .a q (tok ++ n) r E → Go .a q tok ((n.flatMap fun d => [92, d]) ++ r) E
  | [], q, tok, r, E, h => by simpa using h
  | d :: n, q, tok, r, E, h => by
    rw [List.flatMap_cons]
    exact .a_esc (.es (read_way2 n (by rw [List.append_assoc]; exact h)))
theorem Ready.word {n : T} {w : Nat} {r E} (hn : NameOk n) (hw : w < 3) (h : Behind r E) : Ready (spell n w ++ r) (.word n :: E) := by
  have hwd := hn.wordy
  have quo : ∀ {d s}, Quo d → Go .sp false [] (d :: s) (.word n :: E) → Ready (d :: s) (.word n :: E) := fun hd hg => ⟨hg, fun tok ht => .c_oth (.inl hd) ht hg⟩
  unfold spell
  split
  · have e1 : tx "'" = [39] := rfl
    rw [e1]
    simp only [List.append_assoc, List.singleton_append]
    exact quo (.inl rfl) (.sp_quo (.inl rfl) (read_way0 n (fun _ => h _ _ hwd) (fun e => absurd e hn.ne)))
  · split
    · have e1 : tx "\"" = [34] := rfl
      rw [e1]
      simp only [List.append_assoc, List.singleton_append]
      exact quo (.inr rfl) (.sp_quo (.inr rfl) (read_way1 n (h _ _ hwd)))
    · rw [joinT_esc]
      obtain ⟨d, m, rfl⟩ : ∃ d m, n = d :: m := by
        cases n with
        | nil => exact absurd rfl hn.ne
        | cons d m => exact ⟨d, m, rfl⟩
      rw [List.flatMap_cons]
      have hg : Go .sp false [] (92 :: d :: ((m.flatMap fun d => [92, d]) ++ r)) (.word (d :: m) :: E) := .sp_esc (.es (read_way2 m (h _ _ hwd)))
      exact ⟨hg, fun tok ht => .c_oth (.inr rfl) ht hg⟩
noncomputable def joinE : List (List Ev) → List Ev
  | [] => []
  | [x] => x
  | x :: y :: r => x ++ .sign 44 :: joinE (y :: r)
noncomputable def wrapE (rows : List (List Ev)) : List Ev := .sign 123 :: (joinE rows ++ [.sign 125])
noncomputable def rowsE : Forest → List (List Ev)
  | .nil => []
  | .leaf n _ _ r => [.word n] :: rowsE r
  | .node n _ _ d r => (.word n :: wrapE (rowsE d)) :: rowsE r
theorem Forest.Ok.gap {g : T} (h : g = tx "" ∨ g = tx " " ∨ g = tx "\n\t" ∨ g = tx "# },{'\n") : Gap g := h
theorem free_ready : ∀ (f : Forest) {g : T} {r : T} {E : List Ev}, f.Ok → Gap g → f ≠ .nil → Ready (125 :: r) E → Ready (joinT (tx "," ++ g) (rowsF f) ++ 125 :: r) (joinE (rowsE f) ++ E) := by
  intro f
  induction h : sizeOf f using Nat.strongRecOn generalizing f with | ind sz IH => ?_
  intro g r E hf hg hne hr
  have wrap : ∀ (d : Forest) (w : T) (r' : T) (E' : List Ev), sizeOf d < sizeOf f → d.Ok → Gap w → Ready r' E' → Ready (wrapF w (rowsF d) ++ r') (wrapE (rowsE d) ++ E') := by
    intro d w r' E' hs hd hw hr'
    have e1 : tx "{" = [123] := rfl
    have e2 : tx "}" = [125] := rfl
    unfold wrapF wrapE
    rw [e1, e2]
    simp only [List.append_assoc, List.singleton_append, List.cons_append]
    refine .pun (.inl rfl) (.gap hw ?_)
    cases d with
    | nil => exact .pun (.inr (.inr rfl)) (.gap hw hr')
    | leaf => exact IH _ (by rw [← h]; exact hs) _ rfl hd hw (by simp) (.pun (.inr (.inr rfl)) (.gap hw hr'))
    | node => exact IH _ (by rw [← h]; exact hs) _ rfl hd hw (by simp) (.pun (.inr (.inr rfl)) (.gap hw hr'))
  have more : ∀ (r1 : Forest), sizeOf r1 < sizeOf f → r1.Ok → r1 ≠ .nil → Ready (44 :: (g ++ (joinT (tx "," ++ g) (rowsF r1) ++ 125 :: r))) (.sign 44 :: (joinE (rowsE r1) ++ E)) :=
    fun r1 hs h1 hn => .pun (.inr (.inl rfl)) (.gap hg (IH _ (by rw [← h]; exact hs) _ rfl h1 hg hn hr))
  have glue : ∀ (x : T) (ys : List T), ys ≠ [] → joinT (tx "," ++ g) (x :: ys) = x ++ 44 :: (g ++ joinT (tx "," ++ g) ys) := by
    intro x ys hy
    cases ys with
    | nil => exact absurd rfl hy
    | cons y ys =>
      have e1 : tx "," = [44] := rfl
      rw [joinT, e1]; simp
  have glueE : ∀ (x : List Ev) (ys : List (List Ev)), ys ≠ [] → joinE (x :: ys) = x ++ .sign 44 :: joinE ys := by
    intro x ys hy
    cases ys with
    | nil => exact absurd rfl hy
    | cons y ys => rfl
  cases f with
  | nil => exact absurd rfl hne
  | leaf n w s r1 =>
    obtain ⟨hn, hw, hs, h1⟩ := hf
    simp only [rowsF, rowsE]
    have e0 : tx "" = [] := rfl
    rw [e0, List.append_nil]
    by_cases hn1 : r1 = .nil
    · subst hn1
      simp only [rowsF, rowsE, joinT, joinE, List.append_assoc]
      exact .word hn hw (.gap hs (.inr (.inr rfl)) hr)
    · have a1 : rowsF r1 ≠ [] := by cases r1 <;> simp [rowsF] at hn1 ⊢
      have a2 : rowsE r1 ≠ [] := by cases r1 <;> simp [rowsE] at hn1 ⊢
      rw [glue _ _ a1, glueE _ _ a2]
      simp only [List.append_assoc, List.cons_append, List.nil_append]
      exact .word hn hw (.gap hs (.inr (.inl rfl)) (more r1 (by simp; lia) h1 hn1))
  | node n w s d r1 =>
    obtain ⟨hn, hw, hs, hd, h1⟩ := hf
    simp only [rowsF, rowsE]
    have hb : ∀ (r' : T) (E' : List Ev), Ready r' E' → Ready (spell n w ++ (s ++ (wrapF s (rowsF d) ++ r'))) (.word n :: (wrapE (rowsE d) ++ E')) := by
      intro r' E' hr'
      have h2 := wrap d s r' E' (by simp; lia) hd hs hr'
      refine .word hn hw ?_
      unfold wrapF at h2 ⊢
      have e1 : tx "{" = [123] := rfl
      rw [e1] at h2 ⊢
      simp only [List.append_assoc, List.singleton_append, List.cons_append] at h2 ⊢
      exact .gap hs (.inl rfl) h2
    by_cases hn1 : r1 = .nil
    · subst hn1
      simp only [rowsF, rowsE, joinT, joinE, List.append_assoc, List.cons_append]
      exact hb _ _ hr
    · have a1 : rowsF r1 ≠ [] := by cases r1 <;> simp [rowsF] at hn1 ⊢
      have a2 : rowsE r1 ≠ [] := by cases r1 <;> simp [rowsE] at hn1 ⊢
      rw [glue _ _ a1, glueE _ _ a2]
      simp only [List.append_assoc, List.cons_append]
      exact hb _ _ (more r1 (by simp; lia) h1 hn1)
theorem free_go (f : Forest) (hf : f.Ok) (hne : f ≠ .nil) : Go .sp false [] (freeF f []) (wrapE (rowsE f)) := by
  have e1 : tx "{" = [123] := rfl
  have e2 : tx "}" = [125] := rfl
  have h := free_ready f (g := []) (r := []) (E := [.sign 125]) hf (.inl rfl) hne (.stop (.inr (.inr rfl)))
  have := (Ready.pun (d := 123) (.inl rfl) h).s
  unfold freeF wrapF wrapE
  rw [e1, e2]
  simpa using this
theorem plain_is_free : ∀ f : Forest, ∃ f' : Forest, rowsF f' = rowsP f ∧ rowsE f' = rowsE f ∧ (f.Ok → f'.Ok) ∧ (f' = .nil ↔ f = .nil)
  | .nil => ⟨.nil, rfl, rfl, id, Iff.rfl⟩
  | .leaf n w g r => by
    obtain ⟨r', h1, h2, h3, _⟩ := plain_is_free r
    refine ⟨.leaf n 0 [] r', ?_, ?_, ?_, by simp⟩
    · simp only [rowsF, rowsP, h1, List.append_nil]
    · simp only [rowsE, h2]
    · rintro ⟨a, _, _, b⟩; exact ⟨a, by decide, .inl rfl, h3 b⟩
  | .node n w g d r => by
    obtain ⟨r', h1, h2, h3, _⟩ := plain_is_free r
    obtain ⟨d', k1, k2, k3, _⟩ := plain_is_free d
    refine ⟨.node n 0 [] d' r', ?_, ?_, ?_, by simp⟩
    · have e0 : tx "" = [] := rfl
      simp only [rowsF, rowsP, h1, k1, wrapF, wrapP, List.append_nil]
    · simp only [rowsE, h2, k2]
    · rintro ⟨a, _, _, c, b⟩; exact ⟨a, by decide, .inl rfl, k3 c, h3 b⟩
theorem plain_go (f : Forest) (hf : f.Ok) (hne : f ≠ .nil) : Go .sp false [] (plainF f) (wrapE (rowsE f)) := by
  obtain ⟨f', h1, h2, h3, h4⟩ := plain_is_free f
  have := free_go f' (h3 hf) (fun e => hne (h4.mp e))
  rw [h2] at this
  have e : freeF f' [] = plainF f := by
    unfold freeF plainF wrapF wrapP
    rw [h1]; simp
  rw [← e]; exact this
end Mine
end
section
open PySem
set_option tactic.hygienic false
namespace Mine
structure RS where
  rows : List T
  here : T
  word : Option T
noncomputable def addW (rows : List T) (here : T) : Option T → List T
  | some w => rows ++ [joinP here w]
  | none => rows
noncomputable def hdOf : T → T
  | p => ((p.reverse.dropWhile (· ≠ 47)).drop 1).reverse
inductive Step : RS → Ev → RS → Prop
  | word {s n} : Step s (.word n) ⟨s.rows, s.here, some n⟩
  | down {rows here w} : here.length ≤ 5000 → w.length ≤ 100 → Step ⟨rows, here, some w⟩ (.sign 123) ⟨rows, joinP here w, some []⟩
  | next {rows here w} : here.length ≤ 5000 → (∀ x, w = some x → x.length ≤ 100) → rows.length ≤ 5000 → Step ⟨rows, here, w⟩ (.sign 44) ⟨addW rows here w, here, none⟩
  | up {rows here w hd tl} : SplitAt here hd tl → here.length ≤ 5000 → (∀ x, w = some x → x.length ≤ 100) → rows.length ≤ 5000 → Step ⟨rows, here, w⟩ (.sign 125) ⟨addW rows here w, hd, none⟩
inductive Steps : RS → List Ev → RS → Prop
  | nil {s} : Steps s [] s
  | cons {s e s1 E s2} : Step s e s1 → Steps s1 E s2 → Steps s (e :: E) s2
theorem Steps.append {s E s1 E' s2} (h : Steps s E s1) (h' : Steps s1 E' s2) : Steps s (E ++ E') s2 := by
  induction h with
  | nil => exact h'
  | cons h1 _ ih => exact .cons h1 (ih h')
noncomputable def frontOf : T → T
  | [] => []
  | h => h ++ [47]
noncomputable def PathOk (h : T) : Prop := h = [] ∨ (h ≠ [] ∧ h.getLast? ≠ some 47)
theorem joinP_path {h n : T} (hh : PathOk h) (hn : 47 ∉ n) : joinP h n = frontOf h ++ n := by
  unfold joinP
  rcases hh with rfl | ⟨h1, h2⟩
  · rw [if_pos (.inr rfl)]; rfl
  · have h3 : ¬ (n[0]? = some 47 ∨ h = []) := by
      rintro (e | e)
      · exact hn (List.mem_of_getElem? e)
      · exact h1 e
    rw [if_neg h3, if_neg h2]
    cases h with
    | nil => exact absurd rfl h1
    | cons x r => simp [frontOf, tx_slash]
theorem PathOk.down {h n : T} (hh : PathOk h) (hn : 47 ∉ n) (hne : n ≠ []) : PathOk (frontOf h ++ n) := by
  refine .inr ⟨by simp [hne], ?_⟩
  rw [List.getLast?_append]
  obtain ⟨d, hd⟩ : ∃ d, n.getLast? = some d := ⟨_, List.getLast?_eq_some_getLast hne⟩
  rw [hd]
  intro e
  have e' : d = 47 := by simpa using e
  subst e'
  exact hn (List.mem_of_getLast? hd)
theorem split_down {h n : T} (hh : PathOk h) (hn : 47 ∉ n) : SplitAt (frontOf h ++ n) h n := by
  rcases hh with rfl | ⟨h1, h2⟩
  · exact .none hn
  · cases h with
    | nil => exact absurd rfl h1
    | cons x r =>
      have e : frontOf (x :: r) ++ n = (x :: r) ++ 47 :: n := by simp [frontOf]
      rw [e]
      exact .some hn h1 h2
theorem frontOf_down {h n : T} (hne : n ≠ []) : frontOf (frontOf h ++ n) = frontOf h ++ n ++ tx "/" := by
  rw [tx_slash]
  cases n with
  | nil => exact absurd rfl hne
  | cons d n => cases h <;> rfl
theorem joinP_empty {h : T} (hh : PathOk h) : joinP h [] = frontOf h := by
  rw [joinP_path hh (by simp)]; simp
theorem rows_steps : ∀ (f : Forest) {rows h hd tl} (w0 : Option T), f.Ok → f ≠ .nil → PathOk h → SplitAt h hd tl → h.length + 20 * f.depth ≤ 4000 → rows.length + f.count ≤ 5000 → Steps ⟨rows, h, w0⟩ (joinE (rowsE f) ++ [.sign 125]) ⟨rows ++ dueR f (frontOf h), hd, none⟩ := by
  intro f
  induction h : sizeOf f using Nat.strongRecOn generalizing f with | ind sz IH => ?_
  intro rows hr hd tl w0 hf hne hp hs hlen hcnt
  have fl : (frontOf hr).length ≤ hr.length + 1 := by cases hr <;> simp [frontOf]
  have wrap : ∀ (d : Forest) (n : T) (rows : List T), sizeOf d < sizeOf f → d.Ok → NameOk n → d.depth + 1 ≤ f.depth → rows.length + d.count ≤ 4999 → Steps ⟨rows, hr, some n⟩ (wrapE (rowsE d)) ⟨rows ++ dueF d (frontOf hr ++ n ++ tx "/"), hr, none⟩ := by
    intro d n rows hsz hd' hn hdd hrc
    have hsh := hn.short
    have hl2 : (frontOf hr ++ n).length + 20 * d.depth ≤ 4000 := by rw [List.length_append]; lia
    refine .cons (.down (by lia) (by lia)) ?_
    rw [joinP_path hp hn.sl, ← frontOf_down hn.ne]
    have hp' := hp.down hn.sl hn.ne
    have hs' := split_down hp hn.sl
    cases d with
    | nil =>
      refine .cons (.up hs' (by lia) (fun x e => by cases e; simp) (by lia)) ?_
      simp only [addW, joinP_empty hp', dueF, oneIf, dueR, List.append_nil]
      exact .nil
    | leaf => exact IH _ (by rw [← h]; exact hsz) _ rfl _ hd' (by simp) hp' hs' hl2 (by lia)
    | node => exact IH _ (by rw [← h]; exact hsz) _ rfl _ hd' (by simp) hp' hs' hl2 (by lia)
  have glueE : ∀ (x : List Ev) (ys : List (List Ev)), ys ≠ [] → joinE (x :: ys) = x ++ .sign 44 :: joinE ys := by
    intro x ys hy
    cases ys with
    | nil => exact absurd rfl hy
    | cons y ys => rfl
  cases f with
  | nil => exact absurd rfl hne
  | leaf n w s r1 =>
    obtain ⟨hn, hw, hg, h1⟩ := hf
    simp only [rowsE, dueR]
    simp only [Forest.count, Forest.depth] at hlen hcnt
    have hsh := hn.short
    have hw' : ∀ x, some n = some x → x.length ≤ 100 := fun x e => by cases e; lia
    have e1 := joinP_path hp hn.sl
    by_cases hn1 : r1 = .nil
    · subst hn1
      simp only [rowsE, joinE, dueR, List.cons_append, List.nil_append]
      refine .cons .word (.cons (.up hs (by show hr.length ≤ 5000; lia) hw' (by show rows.length ≤ 5000; lia)) ?_)
      simp only [addW, e1]
      exact .nil
    · have a2 : rowsE r1 ≠ [] := by cases r1 <;> simp [rowsE] at hn1 ⊢
      rw [glueE _ _ a2]
      simp only [List.cons_append, List.nil_append]
      refine .cons .word (.cons (.next (by show hr.length ≤ 5000; lia) hw' (by show rows.length ≤ 5000; lia)) ?_)
      simp only [addW, e1]
      have := IH _ (Nat.lt_of_lt_of_eq Forest.szL h) r1 rfl (rows := rows ++ [frontOf hr ++ n]) none h1 hn1 hp hs (by lia) (by simp; lia)
      rw [List.append_assoc] at this
      exact this
  | node n w s d r1 =>
    obtain ⟨hn, hw, hg, hd', h1⟩ := hf
    simp only [rowsE, dueR]
    have e2 : ∀ x, oneIf d x ++ dueR d x = dueF d x := fun _ => rfl
    rw [e2]
    simp only [Forest.count, Forest.depth] at hlen hcnt wrap
    have hno : ∀ x : T, (none : Option T) = some x → x.length ≤ 100 := fun x e => by cases e
    have hdl := dueR_len d (frontOf hr ++ n ++ tx "/")
    have hdo := oneIf_len d (frontOf hr ++ n ++ tx "/")
    have hdd : (dueF d (frontOf hr ++ n ++ tx "/")).length ≤ d.count + 1 := by unfold dueF; rw [List.length_append]; lia
    by_cases hn1 : r1 = .nil
    · subst hn1
      simp only [rowsE, joinE, dueR, List.append_nil, List.cons_append]
      exact .cons .word ((wrap d n rows (by simp; lia) hd' hn (by lia) (by lia)).append (.cons (.up hs (by lia) hno (by rw [List.length_append]; lia)) .nil))
    · have a2 : rowsE r1 ≠ [] := by cases r1 <;> simp [rowsE] at hn1 ⊢
      rw [glueE _ _ a2]
      simp only [List.append_assoc, List.cons_append]
      refine .cons .word ((wrap d n rows (by simp; lia) hd' hn (by lia) (by lia)).append (.cons (.next (by lia) hno (by rw [List.length_append]; lia)) ?_))
      have := IH _ (Nat.lt_of_lt_of_eq Forest.szR h) r1 rfl (rows := rows ++ dueF d (frontOf hr ++ n ++ tx "/")) none h1 hn1 hp hs (by lia) (by rw [List.length_append]; lia)
      simp only [List.append_assoc, addW] at this ⊢
      exact this
theorem tree_steps (f : Forest) (hf : f.Ok) (hne : f ≠ .nil) (hd : f.depth ≤ 100) (hc : f.count ≤ 200) : Steps ⟨[], [], some []⟩ (wrapE (rowsE f)) ⟨dueF f [], [], none⟩ := by
  refine .cons (.down (by simp) (by simp)) ?_
  have e : joinP [] [] = [] := rfl
  rw [e]
  have := rows_steps f (rows := []) (h := []) (some []) hf hne (.inl rfl) (.none (by simp)) (by simp; lia) (by simp; lia)
  have e2 : dueF f [] = [] ++ dueR f (frontOf []) := by cases f <;> first | exact absurd rfl hne | rfl
  rw [e2]; exact this
end Mine
end
section
open PySem
set_option tactic.hygienic false
namespace Mine
noncomputable def pathOf (ns : List T) : T := joinT [47] ns
noncomputable def NamesOk (ns : List T) : Prop := ∀ x ∈ ns, NameOk x
theorem NamesOk.snoc {ns : List T} {n : T} (h : NamesOk ns) (hn : NameOk n) : NamesOk (ns ++ [n]) := by
  intro x hx
  rcases List.mem_append.mp hx with m | m
  · exact h x m
  · rw [List.mem_singleton.mp m]; exact hn
theorem NamesOk.nil : NamesOk [] := fun _ h => nomatch h
theorem pathOf_ne : ∀ {ns : List T}, NamesOk ns → ns ≠ [] → pathOf ns ≠ []
  | [], _, h => absurd rfl h
  | [x], hn, _ => (hn x (.head _)).ne
  | x :: y :: r, hn, _ => by
    have := (hn x (.head _)).ne
    unfold pathOf joinT
    simp [this]
theorem pathOf_snoc {ns : List T} {n : T} (h : NamesOk ns) : pathOf (ns ++ [n]) = frontOf (pathOf ns) ++ n := by
  induction ns with
  | nil => rfl
  | cons x r ih =>
    have hx := h x (.head _)
    have hr : NamesOk r := fun y hy => h y (.tail _ hy)
    have e1 : pathOf (x :: r) ≠ [] := pathOf_ne h (by simp)
    have e2 : frontOf (pathOf (x :: r)) = pathOf (x :: r) ++ [47] := by
      cases q : pathOf (x :: r) with
      | nil => exact absurd q e1
      | cons a b => rfl
    rw [e2]
    cases r with
    | nil => simp [pathOf, joinT]
    | cons y r =>
      have ih' := ih hr
      have e3 : pathOf (y :: r) ≠ [] := pathOf_ne hr (by simp)
      have e4 : frontOf (pathOf (y :: r)) = pathOf (y :: r) ++ [47] := by
        cases q : pathOf (y :: r) with
        | nil => exact absurd q e3
        | cons a b => rfl
      rw [e4] at ih'
      have e5 : pathOf (x :: y :: r) = x ++ [47] ++ pathOf (y :: r) := rfl
      have e6 : pathOf (x :: y :: r ++ [n]) = x ++ [47] ++ pathOf (y :: r ++ [n]) := rfl
      rw [e6, e5, ih']
      simp
theorem pathOf_front {ns : List T} (h : NamesOk ns) : frontOf (pathOf ns) = (ns.flatMap fun n => n ++ [47]) := by
  induction ns with
  | nil => rfl
  | cons x r ih =>
    have hr : NamesOk r := fun y hy => h y (.tail _ hy)
    have e1 : pathOf (x :: r) ≠ [] := pathOf_ne h (by simp)
    have e2 : frontOf (pathOf (x :: r)) = pathOf (x :: r) ++ [47] := by
      cases q : pathOf (x :: r) with
      | nil => exact absurd q e1
      | cons a b => rfl
    rw [e2, List.flatMap_cons, ← ih hr]
    cases r with
    | nil => simp [pathOf, joinT, frontOf]
    | cons y r =>
      have e3 : pathOf (y :: r) ≠ [] := pathOf_ne hr (by simp)
      have e4 : frontOf (pathOf (y :: r)) = pathOf (y :: r) ++ [47] := by
        cases q : pathOf (y :: r) with
        | nil => exact absurd q e3
        | cons a b => rfl
      have e5 : pathOf (x :: y :: r) = x ++ [47] ++ pathOf (y :: r) := rfl
      rw [e4, e5]; simp
theorem last_joinT : ∀ {ns : List T}, NamesOk ns → ns ≠ [] → (pathOf ns).getLast? ≠ some 47
  | [], _, h => absurd rfl h
  | [x], hn, _ => fun e => (hn x (.head _)).sl (List.mem_of_getLast? e)
  | x :: y :: r, hn, _ => by
    have hr : NamesOk (y :: r) := fun z hz => hn z (.tail _ hz)
    have ih := last_joinT hr (by simp)
    have e3 : pathOf (y :: r) ≠ [] := pathOf_ne hr (by simp)
    have e5 : pathOf (x :: y :: r) = x ++ [47] ++ pathOf (y :: r) := rfl
    rw [e5, List.getLast?_append]
    obtain ⟨d, hd⟩ : ∃ d, (pathOf (y :: r)).getLast? = some d := ⟨_, List.getLast?_eq_some_getLast e3⟩
    rw [hd] at ih ⊢
    simpa using ih
theorem NamesOk.path {ns : List T} (h : NamesOk ns) : PathOk (pathOf ns) := by
  by_cases e : ns = []
  · subst e; exact .inl rfl
  · exact .inr ⟨pathOf_ne h e, last_joinT h e⟩
noncomputable def keepC (x : T) : Bool := decide (x ≠ []) && decide (x ≠ [46])
noncomputable def comps (p : T) : List T := (splitT 47 p).filter keepC
theorem keep_name {n : T} (h : NameOk n) : keepC n = true := by simp [keepC, h.ne, h.dot]
theorem keep_names {ns : List T} (h : NamesOk ns) : ns.filter keepC = ns := List.filter_eq_self.mpr fun x hx => keep_name (h x hx)
theorem comps_path {ns : List T} (h : NamesOk ns) : comps (pathOf ns) = ns := by
  unfold comps
  by_cases e : ns = []
  · subst e; rfl
  · unfold pathOf
    rw [splitT_join e (fun p hp => (h p hp).sl)]
    exact keep_names h
theorem comps_front {ns : List T} (h : NamesOk ns) : comps (frontOf (pathOf ns)) = ns := by
  by_cases e : ns = []
  · subst e; rfl
  · have e1 := pathOf_ne h e
    have e2 : frontOf (pathOf ns) = pathOf (ns ++ [[]]) := by rw [pathOf_snoc h]; simp
    rw [e2]
    unfold comps pathOf
    rw [splitT_join (by simp) (fun p hp => by
      rcases List.mem_append.mp hp with m | m
      · exact (h p m).sl
      · rw [List.mem_singleton.mp m]; simp)]
    rw [List.filter_append, keep_names h]
    simp [keepC]
noncomputable def lexLt : List T → List T → Bool
  | [], [] => false
  | [], _ :: _ => true
  | _ :: _, [] => false
  | a :: as, b :: bs => if a = b then lexLt as bs else decide (a < b)
noncomputable def lcp : List T → List T → List T
  | a :: as, b :: bs => if a = b then a :: lcp as bs else []
  | _, _ => []
theorem lexLt_pre (P a b : List T) : lexLt (P ++ a) (P ++ b) = lexLt a b := by
  induction P with
  | nil => rfl
  | cons x r ih => simp [lexLt, ih]
theorem lcp_pre (P a b : List T) : lcp (P ++ a) (P ++ b) = P ++ lcp a b := by
  induction P with
  | nil => rfl
  | cons x r ih => simp [lcp, ih]
theorem lcp_self (a : List T) : lcp a a = a := by
  induction a with
  | nil => rfl
  | cons x r ih => simp [lcp, ih]
theorem tri {a b : T} (h1 : ¬ a < b) (h2 : ¬ b < a) : a = b := List.le_antisymm (List.not_lt.mp h2) (List.not_lt.mp h1)
theorem lexLt_irrefl (a : List T) : lexLt a a = false := by
  induction a with
  | nil => rfl
  | cons x r ih => simp [lexLt, ih]
theorem T_asymm {a b : T} (h : a < b) : ¬ b < a := fun h2 => List.lt_irrefl a (List.lt_trans h h2)
theorem lexLt_trans : ∀ {a b c : List T}, lexLt a b = true → lexLt b c = true → lexLt a c = true
  | [], [], _, h, _ => by simp [lexLt] at h
  | [], _ :: _, [], _, h => by simp [lexLt] at h
  | [], _ :: _, _ :: _, _, _ => rfl
  | _ :: _, [], _, h, _ => by simp [lexLt] at h
  | _ :: _, _ :: _, [], _, h => by simp [lexLt] at h
  | x :: a, y :: b, z :: c, h1, h2 => by
    unfold lexLt at h1 h2 ⊢
    by_cases e1 : x = y
    · subst e1
      rw [if_pos rfl] at h1
      by_cases e2 : x = z
      · subst e2
        rw [if_pos rfl] at h2 ⊢
        exact lexLt_trans h1 h2
      · rw [if_neg e2] at h2 ⊢; exact h2
    · rw [if_neg e1] at h1
      have g1 : x < y := of_decide_eq_true h1
      by_cases e2 : y = z
      · subst e2
        rw [if_neg e1]; exact h1
      · rw [if_neg e2] at h2
        have g2 : y < z := of_decide_eq_true h2
        have g3 := List.lt_trans g1 g2
        have e3 : x ≠ z := fun e => by subst e; exact List.lt_irrefl _ g3
        rw [if_neg e3]; exact decide_eq_true g3
theorem lexLt_asymm {a b : List T} (h : lexLt a b = true) : lexLt b a = false := by
  cases q : lexLt b a with
  | false => rfl
  | true => have := lexLt_trans h q; rw [lexLt_irrefl] at this; cases this
theorem lexLt_conn : ∀ {a b : List T}, lexLt a b = false → lexLt b a = false → a = b
  | [], [], _, _ => rfl
  | [], _ :: _, h, _ => by simp [lexLt] at h
  | _ :: _, [], _, h => by simp [lexLt] at h
  | x :: a, y :: b, h1, h2 => by
    unfold lexLt at h1 h2
    by_cases e : x = y
    · subst e
      rw [if_pos rfl] at h1 h2
      rw [lexLt_conn h1 h2]
    · rw [if_neg e] at h1
      rw [if_neg (Ne.symm e)] at h2
      exact absurd (tri (of_decide_eq_false h1) (of_decide_eq_false h2)) e
noncomputable def leastR (b : List T) : List (List T) → List T
  | [] => b
  | r :: rs => leastR (if lexLt r b then r else b) rs
noncomputable def mostR (b : List T) : List (List T) → List T
  | [] => b
  | r :: rs => mostR (if lexLt b r then r else b) rs
theorem leastR_ok : ∀ (rs : List (List T)) (b : List T), leastR b rs ∈ b :: rs ∧ ∀ r ∈ b :: rs, lexLt r (leastR b rs) = false
  | [], b => ⟨.head _, fun r hr => by rw [List.mem_singleton.mp hr]; exact lexLt_irrefl b⟩
  | r :: rs, b => by
    have ih := leastR_ok rs (if lexLt r b then r else b)
    simp only [leastR]
    cases q : lexLt r b with
    | true =>
      rw [q, if_pos rfl] at ih
      rw [if_pos rfl]
      refine ⟨.tail _ ih.1, fun x hx => ?_⟩
      rcases List.mem_cons.mp hx with rfl | hx
      · cases q2 : lexLt x (leastR r rs) with
        | false => rfl
        | true => have := lexLt_trans q q2; rw [ih.2 r (.head _)] at this; cases this
      · exact ih.2 x hx
    | false =>
      rw [q, if_neg (by simp)] at ih
      rw [if_neg (by simp)]
      refine ⟨?_, fun x hx => ?_⟩
      · rcases List.mem_cons.mp ih.1 with e | m
        · rw [e]; exact .head _
        · exact .tail _ (.tail _ m)
      · rcases List.mem_cons.mp hx with rfl | hx
        · exact ih.2 x (.head _)
        · rcases List.mem_cons.mp hx with rfl | hx
          · cases q2 : lexLt x (leastR b rs) with
            | false => rfl
            | true =>
              by_cases e : leastR b rs = b
              · rw [e] at q2; rw [q] at q2; cases q2
              · cases q3 : lexLt (leastR b rs) b with
                | true => have := lexLt_trans q2 q3; rw [q] at this; cases this
                | false => exact absurd (lexLt_conn (ih.2 b (.head _)) q3).symm e
          · exact ih.2 x (.tail _ hx)
theorem mostR_ok : ∀ (rs : List (List T)) (b : List T), mostR b rs ∈ b :: rs ∧ ∀ r ∈ b :: rs, lexLt (mostR b rs) r = false
  | [], b => ⟨.head _, fun r hr => by rw [List.mem_singleton.mp hr]; exact lexLt_irrefl b⟩
  | r :: rs, b => by
    have ih := mostR_ok rs (if lexLt b r then r else b)
    simp only [mostR]
    cases q : lexLt b r with
    | true =>
      rw [q, if_pos rfl] at ih
      rw [if_pos rfl]
      refine ⟨.tail _ ih.1, fun x hx => ?_⟩
      rcases List.mem_cons.mp hx with rfl | hx
      · cases q2 : lexLt (mostR r rs) x with
        | false => rfl
        | true => have := lexLt_trans q2 q; rw [ih.2 r (.head _)] at this; cases this
      · exact ih.2 x hx
    | false =>
      rw [q, if_neg (by simp)] at ih
      rw [if_neg (by simp)]
      refine ⟨?_, fun x hx => ?_⟩
      · rcases List.mem_cons.mp ih.1 with e | m
        · rw [e]; exact .head _
        · exact .tail _ (.tail _ m)
      · rcases List.mem_cons.mp hx with rfl | hx
        · exact ih.2 x (.head _)
        · rcases List.mem_cons.mp hx with rfl | hx
          · cases q2 : lexLt (mostR b rs) x with
            | false => rfl
            | true =>
              by_cases e : mostR b rs = b
              · rw [e] at q2; rw [q] at q2; cases q2
              · cases q3 : lexLt b (mostR b rs) with
                | true => have := lexLt_trans q3 q2; rw [q] at this; cases this
                | false => exact absurd (lexLt_conn q3 (ih.2 b (.head _))).symm e
          · exact ih.2 x (.tail _ hx)
structure Stem (rows : List (List T)) (P : List T) : Prop where
  pre : ∀ r ∈ rows, ∃ s, r = P ++ s
  apart : P ∈ rows ∨ ∃ x y s t, x ≠ y ∧ P ++ x :: s ∈ rows ∧ P ++ y :: t ∈ rows
theorem Stem.lcp {rows : List (List T)} {P m M : List T} (h : Stem rows P) (hm : m ∈ rows) (hM : M ∈ rows) (h1 : ∀ r ∈ rows, lexLt r m = false) (h2 : ∀ r ∈ rows, lexLt M r = false) : Mine.lcp m M = P := by
  obtain ⟨a, rfl⟩ := h.pre m hm
  obtain ⟨b, rfl⟩ := h.pre M hM
  rw [lcp_pre]
  have key : Mine.lcp a b = [] := by
    rcases h.apart with hP | ⟨x, y, s, t, hxy, hx, hy⟩
    · have := h1 _ hP
      rw [show P = P ++ [] by simp, List.append_assoc, List.nil_append, lexLt_pre] at this
      cases a with
      | nil => rfl
      | cons => simp [lexLt] at this
    · have a1 := h1 _ hx
      have a2 := h1 _ hy
      have b1 := h2 _ hx
      have b2 := h2 _ hy
      rw [lexLt_pre] at a1 a2 b1 b2
      cases a with
      | nil => rfl
      | cons u a =>
        cases b with
        | nil => rfl
        | cons v b =>
          unfold Mine.lcp
          by_cases e : u = v
          · subst e
            exfalso
            have hh : ∀ z w, lexLt (z :: w) (u :: a) = false → lexLt (u :: b) (z :: w) = false → z = u := by
              intro z w c1 c2
              by_cases e : z = u
              · exact e
              · unfold lexLt at c1 c2
                rw [if_neg e] at c1
                rw [if_neg (Ne.symm e)] at c2
                exact tri (of_decide_eq_false c1) (of_decide_eq_false c2)
            exact hxy ((hh _ _ a1 b1).trans (hh _ _ a2 b2).symm)
          · rw [if_neg e]
  rw [key, List.append_nil]
theorem stem_two (a b : List T) : Stem [a, b] (lcp a b) := by
  have h : ∀ a b : List T, (∃ s, a = lcp a b ++ s) ∧ (∃ s, b = lcp a b ++ s) ∧ (a = lcp a b ∨ b = lcp a b ∨ ∃ x y s t, x ≠ y ∧ a = lcp a b ++ x :: s ∧ b = lcp a b ++ y :: t) := by
    intro a
    induction a with
    | nil => intro b; exact ⟨⟨[], rfl⟩, ⟨b, rfl⟩, .inl rfl⟩
    | cons x a ih =>
      intro b
      cases b with
      | nil => exact ⟨⟨x :: a, rfl⟩, ⟨[], rfl⟩, .inr (.inl rfl)⟩
      | cons y b =>
        unfold lcp
        by_cases e : x = y
        · subst e
          rw [if_pos rfl]
          obtain ⟨⟨s1, e1⟩, ⟨s2, e2⟩, h3⟩ := ih b
          refine ⟨⟨s1, by rw [List.cons_append, ← e1]⟩, ⟨s2, by rw [List.cons_append, ← e2]⟩, ?_⟩
          rcases h3 with h3 | h3 | ⟨u, v, s, t, hne, h4, h5⟩
          · exact .inl (by rw [← h3])
          · exact .inr (.inl (by rw [← h3]))
          · exact .inr (.inr ⟨u, v, s, t, hne, by rw [List.cons_append, ← h4], by rw [List.cons_append, ← h5]⟩)
        · rw [if_neg e]
          exact ⟨⟨_, rfl⟩, ⟨_, rfl⟩, .inr (.inr ⟨x, y, a, b, e, rfl, rfl⟩)⟩
  obtain ⟨h1, h2, h3⟩ := h a b
  refine ⟨fun r hr => ?_, ?_⟩
  · rcases List.mem_cons.mp hr with rfl | hr
    · exact h1
    · rw [List.mem_singleton.mp hr]; exact h2
  · rcases h3 with e | e | ⟨x, y, s, t, hne, e1, e2⟩
    · exact .inl (by rw [← e]; exact .head _)
    · exact .inl (by rw [← e]; exact .tail _ (.head _))
    · exact .inr ⟨x, y, s, t, hne, by rw [← e1]; exact .head _, by rw [← e2]; exact .tail _ (.head _)⟩
end Mine
end
section
open PySem
set_option tactic.hygienic false
namespace Mine
noncomputable abbrev Loc := List T × T
noncomputable def emptyAt (f : Forest) (ns : List T) : List Loc := match f with
  | .nil => [(ns, [])]
  | _ => []
noncomputable def locR : Forest → List T → List Loc
  | .nil, _ => []
  | .leaf n _ _ r, ns => (ns, n) :: locR r ns
  | .node n _ _ d r, ns => (emptyAt d (ns ++ [n]) ++ locR d (ns ++ [n])) ++ locR r ns
noncomputable def locF (f : Forest) (ns : List T) : List Loc := emptyAt f ns ++ locR f ns
noncomputable def rowOf (l : Loc) : T := frontOf (pathOf l.1) ++ l.2
noncomputable def compOf (l : Loc) : List T := if l.2 = [] then l.1 else l.1 ++ [l.2]
noncomputable def LocOk (l : Loc) : Prop := NamesOk l.1 ∧ (l.2 = [] ∨ NameOk l.2)
noncomputable def Forest.names : Forest → List T
  | .nil => []
  | .leaf n _ _ r => n :: r.names
  | .node n _ _ _ r => n :: r.names
noncomputable def Forest.Dist : Forest → Prop
  | .nil => True
  | .leaf n _ _ r => n ∉ r.names ∧ r.Dist
  | .node n _ _ d r => n ∉ r.names ∧ d.Dist ∧ r.Dist
theorem due_loc : ∀ (f : Forest) (ns : List T), f.Ok → NamesOk ns → dueR f (frontOf (pathOf ns)) = (locR f ns).map rowOf
  | .nil, ns, _, _ => rfl
  | .leaf n w g r, ns, ⟨hn, _, _, hr⟩, hns => by
    simp only [dueR, locR, List.map_cons]
    rw [due_loc r ns hr hns]; rfl
  | .node n w g d r, ns, ⟨hn, _, _, hd, hr⟩, hns => by
    have e : frontOf (pathOf ns) ++ n ++ tx "/" = frontOf (pathOf (ns ++ [n])) := by
      rw [pathOf_snoc hns, frontOf_down hn.ne]
    simp only [dueR, locR, List.map_append]
    rw [due_loc r ns hr hns, e, due_loc d (ns ++ [n]) hd (hns.snoc hn)]
    congr 2
    cases d <;> simp [oneIf, rowOf, emptyAt]
theorem due_locF (f : Forest) (ns : List T) (hf : f.Ok) (hns : NamesOk ns) : dueF f (frontOf (pathOf ns)) = (locF f ns).map rowOf := by
  unfold dueF locF
  rw [due_loc f ns hf hns, List.map_append]
  congr 1
  cases f <;> simp [oneIf, rowOf, emptyAt]
theorem loc_okR : ∀ (f : Forest) (ns : List T), f.Ok → NamesOk ns → ∀ l ∈ locR f ns, LocOk l
  | .nil, ns, _, _, l, h => nomatch h
  | .leaf n w g r, ns, ⟨hn, _, _, hr⟩, hns, l, h => by
    rcases List.mem_cons.mp h with rfl | h
    · exact ⟨hns, .inr hn⟩
    · exact loc_okR r ns hr hns l h
  | .node n w g d r, ns, ⟨hn, _, _, hd, hr⟩, hns, l, h => by
    rcases List.mem_append.mp h with h | h
    · rcases List.mem_append.mp h with h | h
      · have : l = (ns ++ [n], []) := by cases d <;> simp [emptyAt] at h; exact h
        subst this
        exact ⟨hns.snoc hn, .inl rfl⟩
      · exact loc_okR d _ hd (hns.snoc hn) l h
    · exact loc_okR r ns hr hns l h
theorem loc_okF (f : Forest) (ns : List T) (hf : f.Ok) (hns : NamesOk ns) : ∀ l ∈ locF f ns, LocOk l := by
  intro l h
  rcases List.mem_append.mp h with h | h
  · have : l = (ns, []) := by cases f <;> simp [emptyAt] at h; exact h
    subst this
    exact ⟨hns, .inl rfl⟩
  · exact loc_okR f ns hf hns l h
theorem comps_row {l : Loc} (h : LocOk l) : comps (rowOf l) = compOf l := by
  obtain ⟨ns, n⟩ := l
  obtain ⟨h1, h2⟩ := h
  unfold compOf rowOf
  by_cases e : n = []
  · subst e
    rw [if_pos rfl, List.append_nil]
    exact comps_front h1
  · have hn : NameOk n := by rcases h2 with h2 | h2; exact absurd h2 e; exact h2
    rw [if_neg e]
    show comps (frontOf (pathOf ns) ++ n) = _
    rw [← pathOf_snoc h1]
    exact comps_path (h1.snoc hn)
theorem names_row : ∀ (f : Forest) (ns : List T) (n : T), f.Ok → n ∈ f.names → ∃ l ∈ locR f ns, ∃ s, compOf l = ns ++ n :: s
  | .nil, _, _, _, h => nomatch h
  | .leaf m w g r, ns, n, ⟨hm, _, _, hr⟩, h => by
    rcases List.mem_cons.mp h with rfl | h
    · exact ⟨(ns, n), .head _, [], by unfold compOf; rw [if_neg hm.ne]⟩
    · obtain ⟨l, hl, s, e⟩ := names_row r ns n hr h
      exact ⟨l, .tail _ hl, s, e⟩
  | .node m w g d r, ns, n, ⟨hm, _, _, hd, hr⟩, h => by
    rcases List.mem_cons.mp h with rfl | h
    · cases d with
      | nil => exact ⟨(ns ++ [n], []), List.mem_append_left _ (List.mem_append_left _ (.head _)), [], by unfold compOf; simp⟩
      | leaf n2 w2 g2 r2 =>
        obtain ⟨l, hl, s, e⟩ := names_row (.leaf n2 w2 g2 r2) (ns ++ [n]) n2 hd (.head _)
        exact ⟨l, List.mem_append_left _ (List.mem_append_right _ hl), n2 :: s, by rw [e]; simp⟩
      | node n2 w2 g2 d2 r2 =>
        obtain ⟨l, hl, s, e⟩ := names_row (.node n2 w2 g2 d2 r2) (ns ++ [n]) n2 hd (.head _)
        exact ⟨l, List.mem_append_left _ (List.mem_append_right _ hl), n2 :: s, by rw [e]; simp⟩
    · obtain ⟨l, hl, s, e⟩ := names_row r ns n hr h
      exact ⟨l, List.mem_append_right _ hl, s, e⟩
theorem row_under : ∀ (f : Forest) (ns : List T) (l : Loc), f.Ok → l ∈ locR f ns → ∃ s, compOf l = ns ++ s
  | .nil, _, _, _, h => nomatch h
  | .leaf m w g r, ns, l, ⟨hm, _, _, hr⟩, h => by
    rcases List.mem_cons.mp h with rfl | h
    · exact ⟨[m], by unfold compOf; rw [if_neg hm.ne]⟩
    · exact row_under r ns l hr h
  | .node m w g d r, ns, l, ⟨hm, _, _, hd, hr⟩, h => by
    rcases List.mem_append.mp h with h | h
    · rcases List.mem_append.mp h with h | h
      · have : l = (ns ++ [m], []) := by cases d <;> simp [emptyAt] at h; exact h
        subst this
        exact ⟨[m], by unfold compOf; simp⟩
      · obtain ⟨s, e⟩ := row_under d (ns ++ [m]) l hd h
        exact ⟨m :: s, by rw [e]; simp⟩
    · exact row_under r ns l hr h
theorem stem_of : ∀ (f : Forest) (ns : List T), f.Ok → f.Dist → NamesOk ns → Stem ((locF f ns).map compOf) (ns ++ aloneF f) := by
  have two : ∀ (f : Forest) (ns : List T) (a b : T), f.Ok → a ≠ b → a ∈ f.names → b ∈ f.names → f ≠ .nil → Stem ((locF f ns).map compOf) (ns ++ []) := by
    intro f ns a b hf hab ha hb hne
    have e : locF f ns = locR f ns := by unfold locF; cases f <;> first | exact absurd rfl hne | rfl
    rw [e, List.append_nil]
    refine ⟨fun r hr => ?_, .inr ?_⟩
    · obtain ⟨l, hl, rfl⟩ := List.mem_map.mp hr
      exact row_under f ns l hf hl
    · obtain ⟨l1, h1, s, e1⟩ := names_row f ns a hf ha
      obtain ⟨l2, h2, t, e2⟩ := names_row f ns b hf hb
      exact ⟨a, b, s, t, hab, by rw [← e1]; exact List.mem_map.mpr ⟨l1, h1, rfl⟩, by rw [← e2]; exact List.mem_map.mpr ⟨l2, h2, rfl⟩⟩
  have one : ∀ x : List T, Stem [x] x := fun x => ⟨fun r hr => ⟨[], by rw [List.mem_singleton.mp hr]; simp⟩, .inl (.head _)⟩
  intro f
  induction h : sizeOf f using Nat.strongRecOn generalizing f with | ind sz IH => ?_
  intro ns hf hd hns
  match f, hf, hd with
  | .nil, _, _ =>
    have : (locF .nil ns).map compOf = [ns] := by simp [locF, locR, emptyAt, compOf]
    rw [this]; simpa [aloneF] using one ns
  | .leaf n w g .nil, ⟨hn, _, _, _⟩, _ =>
    have : (locF (.leaf n w g .nil) ns).map compOf = [ns ++ [n]] := by simp [locF, locR, emptyAt, compOf, hn.ne]
    rw [this]; exact one _
  | .node n w g d .nil, ⟨hn, _, _, hd', _⟩, ⟨_, hdd, _⟩ =>
    have : locF (.node n w g d .nil) ns = locF d (ns ++ [n]) := by
      unfold locF
      simp only [emptyAt, locR, List.append_nil, List.nil_append]
    rw [this]
    have ih := IH (sizeOf d) (Nat.lt_of_lt_of_eq Forest.szD h) d rfl (ns ++ [n]) hd' hdd (hns.snoc hn)
    have e : ns ++ aloneF (.node n w g d .nil) = ns ++ [n] ++ aloneF d := by simp [aloneF]
    rw [e]; exact ih
  | .leaf n w g (.leaf n2 w2 g2 r2), hf, hd => exact two _ ns n n2 hf (fun e => hd.1 (by rw [e]; exact .head _)) (.head _) (.tail _ (.head _)) (by simp)
  | .leaf n w g (.node n2 w2 g2 d2 r2), hf, hd => exact two _ ns n n2 hf (fun e => hd.1 (by rw [e]; exact .head _)) (.head _) (.tail _ (.head _)) (by simp)
  | .node n w g d (.leaf n2 w2 g2 r2), hf, hd => exact two _ ns n n2 hf (fun e => hd.1 (by rw [e]; exact .head _)) (.head _) (.tail _ (.head _)) (by simp)
  | .node n w g d (.node n2 w2 g2 d2 r2), hf, hd => exact two _ ns n n2 hf (fun e => hd.1 (by rw [e]; exact .head _)) (.head _) (.tail _ (.head _)) (by simp)
theorem Stem.same {rows rows' : List (List T)} {P : List T} (h : Stem rows P) (e : ∀ r, r ∈ rows' ↔ r ∈ rows) : Stem rows' P := by
  refine ⟨fun r hr => h.pre r ((e r).mp hr), ?_⟩
  rcases h.apart with h | ⟨x, y, s, t, h1, h2, h3⟩
  · exact .inl ((e _).mpr h)
  · exact .inr ⟨x, y, s, t, h1, (e _).mpr h2, (e _).mpr h3⟩
noncomputable def shut (n : Nat) : T := List.replicate n 125
noncomputable def openT (ns : List T) : T := ns.flatMap fun n => spell n 0 ++ [123]
noncomputable def nameT (n : T) : T := if n = [] then [] else spell n 0
noncomputable def commaT (b : Bool) : T := if b then [44] else []
noncomputable def outT : Bool → List T → List Loc → T
  | _, hs, [] => shut hs.length
  | b, hs, (gs, n) :: L => shut (hs.length - (lcp hs gs).length) ++ (commaT b ++ (openT (gs.drop (lcp hs gs).length) ++ (nameT n ++ outT true gs L)))
noncomputable def lastF : Forest → List T
  | .nil => []
  | .leaf _ _ _ .nil => []
  | .node n _ _ d .nil => n :: lastF d
  | .leaf _ _ _ r => lastF r
  | .node _ _ _ _ r => lastF r
noncomputable def bodyF : Forest → T
  | .nil => []
  | .leaf n _ _ .nil => spell n 0
  | .node n _ _ d .nil => spell n 0 ++ [123] ++ bodyF d
  | .leaf n _ _ r => spell n 0 ++ [44] ++ bodyF r
  | .node n _ _ d r => spell n 0 ++ wrapP (rowsP d) ++ [44] ++ bodyF r
theorem shut_add (a b : Nat) : shut (a + b) = shut a ++ shut b := by unfold shut; rw [List.replicate_append_replicate]
theorem joinT_cons' (x : T) {ys : List T} (h : ys ≠ []) : joinT (tx ",") (x :: ys) = x ++ [44] ++ joinT (tx ",") ys := by
  cases ys with
  | nil => exact absurd rfl h
  | cons y ys => rfl
theorem rowsP_ne {f : Forest} (h : f ≠ .nil) : rowsP f ≠ [] := by cases f <;> simp [rowsP] at h ⊢
theorem body_plain : ∀ f : Forest, joinT (tx ",") (rowsP f) = bodyF f ++ shut (lastF f).length
  | .nil => rfl
  | .leaf n _ _ .nil => by simp [rowsP, joinT, bodyF, lastF, shut]; rfl
  | .leaf n _ _ (.leaf n2 w2 g2 r2) => by
    have ih := body_plain (.leaf n2 w2 g2 r2)
    have e0 : tx "" = [] := rfl
    rw [rowsP, joinT_cons' _ (rowsP_ne (by simp)), ih, e0]
    simp [bodyF, lastF]
  | .leaf n _ _ (.node n2 w2 g2 d2 r2) => by
    have ih := body_plain (.node n2 w2 g2 d2 r2)
    have e0 : tx "" = [] := rfl
    rw [rowsP, joinT_cons' _ (rowsP_ne (by simp)), ih, e0]
    simp [bodyF, lastF]
  | .node n _ _ d .nil => by
    have ih := body_plain d
    have e1 : tx "{" = [123] := rfl
    have e2 : tx "}" = [125] := rfl
    have e3 : shut ((lastF d).length + 1) = shut (lastF d).length ++ [125] := shut_add _ 1
    simp only [rowsP, joinT, wrapP, ih, bodyF, lastF, List.length_cons, e3, e1, e2, List.append_assoc]
  | .node n _ _ d (.leaf n2 w2 g2 r2) => by
    have ih := body_plain (.leaf n2 w2 g2 r2)
    rw [rowsP, joinT_cons' _ (rowsP_ne (by simp)), ih]
    simp [bodyF, lastF]
  | .node n _ _ d (.node n2 w2 g2 d2 r2) => by
    have ih := body_plain (.node n2 w2 g2 d2 r2)
    rw [rowsP, joinT_cons' _ (rowsP_ne (by simp)), ih]
    simp [bodyF, lastF]
theorem lcp_apart {ds m : List T} (h : ∀ x y, ds.head? = some x → m.head? = some y → x ≠ y) : lcp ds m = [] := by
  cases ds with
  | nil => rfl
  | cons x ds =>
    cases m with
    | nil => rfl
    | cons y m =>
      unfold lcp
      rw [if_neg (h x y rfl rfl)]
structure Part (hs ns bs ds m : List T) (f : Forest) : Prop where
  h : hs = bs ++ ds
  n : ns = bs ++ m
  ok : ∀ x, ds.head? = some x → (m = [] → x ∉ f.names) ∧ (∀ y, m.head? = some y → x ≠ y)
theorem back_out : ∀ (f : Forest) (hs ns bs ds m : List T) (b : Bool) (L : List Loc), f.Ok → f.Dist → f ≠ .nil → Part hs ns bs ds m f →
    outT b hs (locR f ns ++ L) = shut ds.length ++ (commaT b ++ (openT m ++ (bodyF f ++ outT true (ns ++ lastF f) L))) := by
  intro f
  induction h : sizeOf f using Nat.strongRecOn generalizing f with | ind sz IH => ?_
  intro hs ns bs ds m b L hf hd hne hp
  have goTo : ∀ (q : List T), (∀ x y, ds.head? = some x → (m ++ q).head? = some y → x ≠ y) → lcp hs (ns ++ q) = bs ∧ hs.length - (lcp hs (ns ++ q)).length = ds.length ∧ (ns ++ q).drop (lcp hs (ns ++ q)).length = m ++ q := by
    intro q hq
    have e : lcp hs (ns ++ q) = bs := by rw [hp.h, hp.n, List.append_assoc, lcp_pre, lcp_apart hq, List.append_nil]
    refine ⟨e, ?_, ?_⟩
    · rw [e, hp.h, List.length_append]; lia
    · rw [e, hp.n, List.append_assoc, List.drop_left]
  have open_app : ∀ a b : List T, openT (a ++ b) = openT a ++ openT b := fun a b => by unfold openT; rw [List.flatMap_append]
  cases f with
  | nil => exact absurd rfl hne
  | leaf n w g r =>
    obtain ⟨hn, _, _, hr⟩ := hf
    obtain ⟨hd1, hd2⟩ := hd
    have hq := goTo [] (fun x y h1 h2 => by
      rw [List.append_nil] at h2
      exact (hp.ok x h1).2 y h2)
    rw [List.append_nil, List.append_nil] at hq
    obtain ⟨q1, q2, q3⟩ := hq
    simp only [locR, List.cons_append, outT]
    rw [q2, q3]
    have en : nameT n = spell n 0 := by unfold nameT; rw [if_neg hn.ne]
    rw [en]
    by_cases hr0 : r = .nil
    · subst hr0
      simp [locR, bodyF, lastF]
    · have ih := IH (sizeOf r) (Nat.lt_of_lt_of_eq Forest.szL h) r rfl ns ns ns [] [] true L hr hd2 hr0 ⟨by simp, by simp, fun x hx => by simp at hx⟩
      rw [ih]
      have e1 : bodyF (.leaf n w g r) = spell n 0 ++ [44] ++ bodyF r := by cases r <;> first | exact absurd rfl hr0 | rfl
      have e2 : lastF (.leaf n w g r) = lastF r := by cases r <;> first | exact absurd rfl hr0 | rfl
      rw [e1, e2]
      simp [shut, openT, commaT]
  | node n w g d r =>
    obtain ⟨hn, _, _, hd', hr⟩ := hf
    obtain ⟨hd1, hdd, hd2⟩ := hd
    have hap : ∀ x y, ds.head? = some x → (m ++ [n]).head? = some y → x ≠ y := by
      intro x y h1 h2
      cases m with
      | nil =>
        have : n = y := by simpa using h2
        subst this
        exact fun e => (hp.ok x h1).1 rfl (by rw [e]; exact .head _)
      | cons z m => exact (hp.ok x h1).2 y (by simpa using h2)
    have down : ∀ L' : List Loc, outT b hs ((emptyAt d (ns ++ [n]) ++ locR d (ns ++ [n])) ++ L') = shut ds.length ++ (commaT b ++ (openT m ++ (spell n 0 ++ [123] ++ bodyF d ++ outT true (ns ++ (n :: lastF d)) L'))) := by
      intro L'
      by_cases hd0 : d = .nil
      · subst hd0
        obtain ⟨q1, q2, q3⟩ := goTo [n] hap
        simp only [emptyAt, locR, List.append_nil, List.cons_append, List.nil_append, outT]
        rw [q2, q3, open_app]
        simp [openT, nameT, bodyF, lastF]
      · have e : emptyAt d (ns ++ [n]) = [] := by cases d <;> first | exact absurd rfl hd0 | rfl
        rw [e, List.nil_append]
        have ih := IH (sizeOf d) (Nat.lt_of_lt_of_eq Forest.szD h) d rfl hs (ns ++ [n]) bs ds (m ++ [n]) b L' hd' hdd hd0 ⟨hp.h, by rw [hp.n, List.append_assoc], fun x hx => ⟨fun e => by simp at e, fun y hy => hap x y hx hy⟩⟩
        rw [ih, open_app]
        simp [openT]
    simp only [locR]
    rw [List.append_assoc, down]
    by_cases hr0 : r = .nil
    · subst hr0
      simp [locR, bodyF, lastF]
    · have ih := IH (sizeOf r) (Nat.lt_of_lt_of_eq Forest.szR h) r rfl (ns ++ (n :: lastF d)) ns ns (n :: lastF d) [] true L hr hd2 hr0 ⟨rfl, by simp, fun x hx => ⟨fun _ => by
          have : n = x := by simpa using hx
          subst this; exact hd1, fun y hy => by simp at hy⟩⟩
      rw [ih]
      have e1 : bodyF (.node n w g d r) = spell n 0 ++ wrapP (rowsP d) ++ [44] ++ bodyF r := by cases r <;> first | exact absurd rfl hr0 | rfl
      have e2 : lastF (.node n w g d r) = lastF r := by cases r <;> first | exact absurd rfl hr0 | rfl
      have e3 : tx "{" = [123] := rfl
      have e4 : tx "}" = [125] := rfl
      have e5 : shut ((lastF d).length + 1) = shut (lastF d).length ++ [125] := shut_add _ 1
      rw [e1, e2, wrapP, body_plain d, e3, e4]
      simp only [List.length_cons, e5, openT, List.flatMap_nil, commaT, if_true, List.append_assoc, List.nil_append]
theorem back_plain (f : Forest) (hf : f.Ok) (hd : f.Dist) (hne : f ≠ .nil) : [123] ++ outT false [] (locF f []) ++ [125] = plainF f := by
  have e : locF f [] = locR f [] ++ [] := by unfold locF; cases f <;> first | exact absurd rfl hne | simp [emptyAt]
  rw [e, back_out f [] [] [] [] [] false [] hf hd hne ⟨rfl, rfl, fun x hx => by simp at hx⟩]
  have e3 : tx "{" = [123] := rfl
  have e4 : tx "}" = [125] := rfl
  unfold plainF wrapP
  rw [body_plain, e3, e4]
  simp [shut, commaT, openT, outT]
end Mine
end
section
set_option tactic.hygienic true
open PySem
namespace Mine
theorem NamesOk.left {a b : List T} (h : NamesOk (a ++ b)) : NamesOk a := fun x hx => h x (List.mem_append_left _ hx)
theorem NamesOk.right {a b : List T} (h : NamesOk (a ++ b)) : NamesOk b := fun x hx => h x (List.mem_append_right _ hx)
theorem frontOf_le (h : T) : h.length ≤ (frontOf h).length := by
  cases h with
  | nil => exact Nat.zero_le _
  | cons x r => simp [frontOf]
theorem path_snoc_lt {a : List T} {n : T} (h : NamesOk (a ++ [n])) : (pathOf a).length < (pathOf (a ++ [n])).length := by
  rw [pathOf_snoc h.left, List.length_append]
  have h1 := frontOf_le (pathOf a)
  have h2 : n ≠ [] := (h n (by simp)).ne
  have h3 : 0 < n.length := List.length_pos_iff.mpr h2
  lia
theorem path_le : ∀ (d a : List T), NamesOk (a ++ d) → (pathOf a).length ≤ (pathOf (a ++ d)).length
  | [], a, _ => by rw [List.append_nil]; exact Nat.le_refl _
  | n :: d, a, h => by
    have e : a ++ n :: d = (a ++ [n]) ++ d := by simp
    rw [e] at h ⊢
    exact Nat.le_trans (Nat.le_of_lt (path_snoc_lt h.left)) (path_le d _ h)
theorem lcp_left : ∀ (a b : List T), ∃ d, a = lcp a b ++ d
  | [], b => ⟨[], by cases b <;> simp [lcp]⟩
  | x :: a, [] => ⟨x :: a, by simp [lcp]⟩
  | x :: a, y :: b => by
    unfold lcp
    split
    · obtain ⟨d, hd⟩ := lcp_left a b
      exact ⟨d, by rw [List.cons_append, ← hd]⟩
    · exact ⟨x :: a, by simp⟩
theorem lcp_right : ∀ (a b : List T), ∃ d, b = lcp a b ++ d
  | [], b => ⟨b, by cases b <;> simp [lcp]⟩
  | x :: a, [] => ⟨[], by simp [lcp]⟩
  | x :: a, y :: b => by
    unfold lcp
    split
    · rename_i h
      obtain ⟨d, hd⟩ := lcp_right a b
      exact ⟨d, by rw [List.cons_append, ← hd, h]⟩
    · exact ⟨y :: b, by simp⟩
theorem snoc_cases (d : List T) : d = [] ∨ ∃ e n, d = e ++ [n] := by
  rcases List.eq_nil_or_concat d with h | ⟨e, n, h⟩
  · exact .inl h
  · exact .inr ⟨e, n, by simpa using h⟩
theorem shut_snoc (n : Nat) : shut (n + 1) = [125] ++ shut n := by rw [Nat.add_comm]; exact shut_add 1 n
theorem path_split {a : List T} {n : T} (h : NamesOk (a ++ [n])) : SplitAt (pathOf (a ++ [n])) (pathOf a) n := by
  rw [pathOf_snoc h.left]
  exact split_down h.left.path (h n (by simp)).sl
theorem row_split {l : Loc} (h : LocOk l) : SplitAt (rowOf l) (pathOf l.1) l.2 := by
  unfold rowOf
  refine split_down h.1.path ?_
  rcases h.2 with e | e
  · rw [e]; exact fun h => nomatch h
  · exact e.sl
theorem path_join {a : List T} {n : T} (h : NamesOk (a ++ [n])) : joinP (pathOf a) n = pathOf (a ++ [n]) := by
  rw [joinP_path h.left.path (h n (by simp)).sl, pathOf_snoc h.left]
theorem path_first {a : List T} (h : NamesOk a) : (pathOf a)[0]? ≠ some 47 := by
  cases a with
  | nil => exact fun h => nomatch h
  | cons n r =>
    have hn := h n (.head _)
    cases n with
    | nil => exact absurd rfl hn.ne
    | cons x n =>
      have e : (pathOf ((x :: n) :: r))[0]? = some x := by
        unfold pathOf
        cases r with
        | nil => rfl
        | cons y r => rfl
      rw [e]
      intro e
      injection e with e
      exact hn.sl (by rw [e]; exact .head _)
end Mine
end
section
open PySem
set_option tactic.hygienic false
namespace Mine
theorem joinNil : ∀ ns : List T, joinT (tx "") (ns.map fun n => n ++ [47]) = ns.flatMap fun n => n ++ [47]
  | [] => rfl
  | [n] => by simp [joinT]
  | n :: m :: ns => by
    have ih := joinNil (m :: ns)
    rw [List.map_cons, joinT_cons _ _ (by simp), ih]
    have e : tx "" = [] := rfl
    rw [e]
    simp
theorem front_len : ∀ ns : List T, NamesOk ns → (ns.flatMap fun n => n ++ [47]).length ≤ 17 * ns.length
  | [], _ => Nat.zero_le _
  | n :: ns, h => by
    have ih := front_len ns (fun x hx => h x (.tail _ hx))
    have hn := (h n (.head _)).short
    simp only [List.flatMap_cons, List.length_append, List.length_cons, List.length_nil]
    lia
theorem sumLen_front : ∀ ns : List T, NamesOk ns → ((ns.map fun n => n ++ [47]).map (·.length)).sum ≤ 17 * ns.length
  | [], _ => Nat.zero_le _
  | n :: ns, h => by
    have ih := sumLen_front ns (fun x hx => h x (.tail _ hx))
    have hn := (h n (.head _)).short
    simp only [List.map_cons, List.sum_cons, List.length_append, List.length_cons, List.length_nil] at ih ⊢
    lia
theorem sumLen_names : ∀ ns : List T, (∀ n ∈ ns, n.length ≤ 16) → (ns.map (·.length)).sum ≤ 16 * ns.length
  | [], _ => Nat.zero_le _
  | n :: ns, h => by
    have ih := sumLen_names ns (fun x hx => h x (.tail _ hx))
    have hn := h n (.head _)
    simp only [List.map_cons, List.sum_cons, List.length_cons] at ih ⊢
    lia
theorem alone_short : ∀ f : Forest, f.Ok → ∀ n ∈ aloneF f, n.length ≤ 16
  | .nil, _, n, h => by simp [aloneF] at h
  | .leaf m _ _ .nil, ⟨hm, _, _, _⟩, n, h => by
    have : n = m := by simpa [aloneF] using h
    subst this; exact hm.short
  | .leaf _ _ _ (.leaf ..), _, n, h => by simp [aloneF] at h
  | .leaf _ _ _ (.node ..), _, n, h => by simp [aloneF] at h
  | .node m _ _ d .nil, ⟨hm, _, _, hd, _⟩, n, h => by
    rcases List.mem_cons.mp (show n ∈ m :: aloneF d from h) with rfl | h
    · exact hm.short
    · exact alone_short d hd n h
  | .node _ _ _ _ (.leaf ..), _, n, h => by simp [aloneF] at h
  | .node _ _ _ _ (.node ..), _, n, h => by simp [aloneF] at h
theorem loc_deep : ∀ (f : Forest) (ns : List T), ∀ l ∈ locR f ns, l.1.length ≤ ns.length + f.depth
  | .nil, ns, l, h => nomatch h
  | .leaf n w g r, ns, l, h => by
    rcases List.mem_cons.mp h with rfl | h
    · exact Nat.le_add_right _ _
    · exact loc_deep r ns l h
  | .node n w g d r, ns, l, h => by
    simp only [Forest.depth]
    rcases List.mem_append.mp h with h | h
    · rcases List.mem_append.mp h with h | h
      · have : l = (ns ++ [n], []) := by cases d <;> simp [emptyAt] at h; exact h
        subst this
        simp only [List.length_append, List.length_cons, List.length_nil]
        exact Nat.add_le_add_left (Nat.le_trans (Nat.succ_le_succ (Nat.zero_le _)) (Nat.le_max_left _ _)) _
      · have := loc_deep d _ l h
        simp only [List.length_append, List.length_cons, List.length_nil] at this
        exact Nat.le_trans this (by rw [Nat.add_assoc]; exact Nat.add_le_add_left (Nat.le_trans (Nat.le_of_eq (Nat.add_comm _ _)) (Nat.le_max_left _ _)) _)
    · exact Nat.le_trans (loc_deep r ns l h) (Nat.add_le_add_left (Nat.le_max_right _ _) _)
theorem loc_deepF (f : Forest) (ns : List T) : ∀ l ∈ locF f ns, l.1.length ≤ ns.length + f.depth := by
  intro l h
  rcases List.mem_append.mp h with h | h
  · have : l = (ns, []) := by cases f <;> simp [emptyAt] at h; exact h
    subst this
    exact Nat.le_add_right _ _
  · exact loc_deep f ns l h
theorem row_len {l : Loc} (h : LocOk l) : (rowOf l).length ≤ 17 * l.1.length + 16 := by
  unfold rowOf
  rw [List.length_append, pathOf_front h.1]
  have h1 := front_len l.1 h.1
  have h2 : l.2.length ≤ 16 := by
    rcases h.2 with e | e
    · rw [e]; simp
    · exact e.short
  lia
theorem row_first {l : Loc} (h : LocOk l) : (rowOf l)[0]? ≠ some 47 := by
  obtain ⟨ns, n⟩ := l
  obtain ⟨h1, h2⟩ := h
  unfold rowOf
  rw [pathOf_front h1]
  cases ns with
  | nil =>
    dsimp only at h2 ⊢
    simp only [List.flatMap_nil, List.nil_append]
    rcases h2 with e | e
    · rw [e]; exact fun h => nomatch h
    · cases n with
      | nil => exact fun h => nomatch h
      | cons x n =>
        intro q
        injection q with q
        exact e.sl (by rw [q]; exact .head _)
  | cons m ns =>
    have hm := h1 m (.head _)
    cases m with
    | nil => exact absurd rfl hm.ne
    | cons x m =>
      intro q
      injection q with q
      exact hm.sl (by rw [q]; exact .head _)
theorem locF_ne : ∀ (f : Forest) (ns : List T), locF f ns ≠ []
  | .nil, _ => fun h => nomatch h
  | .leaf .., _ => fun h => nomatch h
  | .node n _ _ d r, ns => by
    have := locF_ne d (ns ++ [n])
    intro h
    apply this
    unfold locF at h ⊢
    simp only [locR, List.append_eq_nil_iff] at h
    simp only [List.append_eq_nil_iff]
    exact ⟨h.2.1.1, h.2.1.2⟩
theorem comps_rows (f : Forest) (ns : List T) (hf : f.Ok) (hns : NamesOk ns) : ((locF f ns).map rowOf).map comps = (locF f ns).map compOf := by
  rw [List.map_map]
  apply List.map_congr_left
  intro l hl
  exact comps_row (loc_okF f ns hf hns l hl)
theorem stem_twice (f : Forest) (ns : List T) (k : Nat) (hf : f.Ok) (hd : f.Dist) (hns : NamesOk ns) : Stem (((locF f ns).map rowOf ++ (((locF f ns).map rowOf).take k).reverse).map comps) (ns ++ aloneF f) := by
  refine (stem_of f ns hf hd hns).same fun r => ?_
  rw [List.map_append, comps_rows f ns hf hns, List.map_reverse, List.map_take, comps_rows f ns hf hns]
  simp only [List.mem_append, List.mem_reverse]
  exact ⟨fun h => h.elim id fun h => List.mem_of_mem_take h, .inl⟩
end Mine
end
section
open PySem
set_option tactic.hygienic false
namespace Mine
noncomputable def Forest.snocL (n : T) (w : Nat) (g : T) : Forest → Forest
  | .nil => .leaf n w g .nil
  | .leaf m v h r => .leaf m v h (r.snocL n w g)
  | .node m v h d r => .node m v h d (r.snocL n w g)
noncomputable def Forest.snocN (n : T) (w : Nat) (g : T) (k : Forest) : Forest → Forest
  | .nil => .node n w g k .nil
  | .leaf m v h r => .leaf m v h (Forest.snocN n w g k r)
  | .node m v h d r => .node m v h d (Forest.snocN n w g k r)
theorem snocL_names (n w g) : ∀ f : Forest, (f.snocL n w g).names = f.names ++ [n]
  | .nil => rfl
  | .leaf _ _ _ r => by simp [Forest.snocL, Forest.names, snocL_names n w g r]
  | .node _ _ _ _ r => by simp [Forest.snocL, Forest.names, snocL_names n w g r]
theorem snocN_names (n w g k) : ∀ f : Forest, (Forest.snocN n w g k f).names = f.names ++ [n]
  | .nil => rfl
  | .leaf _ _ _ r => by simp [Forest.snocN, Forest.names, snocN_names n w g k r]
  | .node _ _ _ _ r => by simp [Forest.snocN, Forest.names, snocN_names n w g k r]
theorem snocL_count (n w g) : ∀ f : Forest, (f.snocL n w g).count = f.count + 1
  | .nil => rfl
  | .leaf _ _ _ r => by simp [Forest.snocL, Forest.count, snocL_count n w g r]
  | .node _ _ _ _ r => by simp only [Forest.snocL, Forest.count, snocL_count n w g r]; lia
theorem snocN_count (n w g k) : ∀ f : Forest, (Forest.snocN n w g k f).count = f.count + k.count + 1
  | .nil => by simp [Forest.snocN, Forest.count]
  | .leaf _ _ _ r => by simp only [Forest.snocN, Forest.count, snocN_count n w g k r]; lia
  | .node _ _ _ _ r => by simp only [Forest.snocN, Forest.count, snocN_count n w g k r]; lia
theorem snocL_depth (n w g) : ∀ f : Forest, (f.snocL n w g).depth = max f.depth ((Forest.leaf n w g .nil).depth)
  | .nil => by simp [Forest.snocL, Forest.depth]
  | .leaf _ _ _ r => by simp [Forest.snocL, Forest.depth, snocL_depth n w g r]
  | .node _ _ _ _ r => by simp only [Forest.snocL, Forest.depth, snocL_depth n w g r]; exact (Nat.max_assoc _ _ _).symm
theorem snocN_depth (n w g k) : ∀ f : Forest, (Forest.snocN n w g k f).depth ≤ max f.depth (k.depth + 1)
  | .nil => by simp only [Forest.snocN, Forest.depth]; lia
  | .leaf _ _ _ r => snocN_depth n w g k r
  | .node _ _ _ _ r => Nat.max_le.mpr ⟨Nat.le_trans (Nat.le_max_left _ _) (Nat.le_max_left _ _), Nat.le_trans (snocN_depth n w g k r) (Nat.max_le.mpr ⟨Nat.le_trans (Nat.le_max_right _ _) (Nat.le_max_left _ _), Nat.le_max_right _ _⟩)⟩
theorem snocL_ok {n w g} (hn : NameOk n) (hw : w < 3) (hg : Gap g) : ∀ f : Forest, f.Ok → (f.snocL n w g).Ok
  | .nil, _ => ⟨hn, hw, hg, trivial⟩
  | .leaf _ _ _ r, ⟨a, b, c, d⟩ => ⟨a, b, c, snocL_ok hn hw hg r d⟩
  | .node _ _ _ _ r, ⟨a, b, c, e, d⟩ => ⟨a, b, c, e, snocL_ok hn hw hg r d⟩
theorem snocN_ok {n w g k} (hn : NameOk n) (hw : w < 3) (hg : Gap g) (hk : k.Ok) : ∀ f : Forest, f.Ok → (Forest.snocN n w g k f).Ok
  | .nil, _ => ⟨hn, hw, hg, hk, trivial⟩
  | .leaf _ _ _ r, ⟨a, b, c, d⟩ => ⟨a, b, c, snocN_ok hn hw hg hk r d⟩
  | .node _ _ _ _ r, ⟨a, b, c, e, d⟩ => ⟨a, b, c, e, snocN_ok hn hw hg hk r d⟩
theorem snocL_dist {n w g} : ∀ f : Forest, n ∉ f.names → f.Dist → (f.snocL n w g).Dist
  | .nil, _, _ => ⟨fun h => (nomatch h), trivial⟩
  | .leaf m _ _ r, hn, ⟨a, b⟩ => by
    have h1 : n ≠ m := fun e => hn (by rw [e]; exact .head _)
    have h2 : n ∉ r.names := fun e => hn (.tail _ e)
    refine ⟨?_, snocL_dist r h2 b⟩
    rw [snocL_names]
    simp only [List.mem_append, List.mem_singleton, not_or]
    exact ⟨a, fun e => h1 e.symm⟩
  | .node m _ _ d r, hn, ⟨a, c, b⟩ => by
    have h1 : n ≠ m := fun e => hn (by rw [e]; exact .head _)
    have h2 : n ∉ r.names := fun e => hn (.tail _ e)
    refine ⟨?_, c, snocL_dist r h2 b⟩
    rw [snocL_names]
    simp only [List.mem_append, List.mem_singleton, not_or]
    exact ⟨a, fun e => h1 e.symm⟩
theorem snocN_dist {n w g k} (hk : k.Dist) : ∀ f : Forest, n ∉ f.names → f.Dist → (Forest.snocN n w g k f).Dist
  | .nil, _, _ => ⟨fun h => (nomatch h), hk, trivial⟩
  | .leaf m _ _ r, hn, ⟨a, b⟩ => by
    have h1 : n ≠ m := fun e => hn (by rw [e]; exact .head _)
    have h2 : n ∉ r.names := fun e => hn (.tail _ e)
    refine ⟨?_, snocN_dist hk r h2 b⟩
    rw [snocN_names]
    simp only [List.mem_append, List.mem_singleton, not_or]
    exact ⟨a, fun e => h1 e.symm⟩
  | .node m _ _ d r, hn, ⟨a, c, b⟩ => by
    have h1 : n ≠ m := fun e => hn (by rw [e]; exact .head _)
    have h2 : n ∉ r.names := fun e => hn (.tail _ e)
    refine ⟨?_, c, snocN_dist hk r h2 b⟩
    rw [snocN_names]
    simp only [List.mem_append, List.mem_singleton, not_or]
    exact ⟨a, fun e => h1 e.symm⟩
theorem snocL_ne (n w g) : ∀ f : Forest, f.snocL n w g ≠ .nil
  | .nil => fun h => nomatch h
  | .leaf .. => fun h => nomatch h
  | .node .. => fun h => nomatch h
theorem snocN_ne (n w g k) : ∀ f : Forest, Forest.snocN n w g k f ≠ .nil
  | .nil => fun h => nomatch h
  | .leaf .. => fun h => nomatch h
  | .node .. => fun h => nomatch h
theorem names_len : ∀ f : Forest, f.names.length = f.top
  | .nil => rfl
  | .leaf _ _ _ r => by simp [Forest.names, Forest.top, names_len r]
  | .node _ _ _ _ r => by simp [Forest.names, Forest.top, names_len r]
noncomputable def Digit (d : Nat) : Prop := 48 ≤ d ∧ d ≤ 57
structure WordOk (w : T) : Prop where
  sl : 47 ∉ w
  short : w.length ≤ 6
  fin : ∃ b x, w = b ++ [x] ∧ ¬ Digit x
theorem tail_same : ∀ {a b u v : T} {x y : Nat}, (∀ d ∈ u, Digit d) → (∀ d ∈ v, Digit d) → ¬ Digit x → ¬ Digit y → u ++ x :: a = v ++ y :: b → u = v
  | a, b, [], [], x, y, _, _, _, _, _ => rfl
  | a, b, [], d :: v, x, y, _, hv, hx, _, h => by
    injection h with h1 h2
    exact absurd (h1 ▸ hv d (.head _)) hx
  | a, b, d :: u, [], x, y, hu, _, _, hy, h => by
    injection h with h1 h2
    exact absurd (h1 ▸ hu d (.head _)) hy
  | a, b, d :: u, e :: v, x, y, hu, hv, hx, hy, h => by
    injection h with h1 h2
    rw [h1, tail_same (fun z hz => hu z (.tail _ hz)) (fun z hz => hv z (.tail _ hz)) hx hy h2]
theorem number_same {w w' u v : T} (hw : WordOk w) (hw' : WordOk w') (hu : ∀ d ∈ u, Digit d) (hv : ∀ d ∈ v, Digit d) (h : w ++ u = w' ++ v) : u = v := by
  obtain ⟨b, x, rfl, hx⟩ := hw.fin
  obtain ⟨b', y, rfl, hy⟩ := hw'.fin
  have h2 := congrArg List.reverse h
  simp only [List.reverse_append, List.reverse_cons, List.reverse_nil, List.nil_append, List.singleton_append, List.append_assoc] at h2
  have := tail_same (u := u.reverse) (v := v.reverse) (fun d hd => hu d (List.mem_reverse.mp hd)) (fun d hd => hv d (List.mem_reverse.mp hd)) hx hy (by simpa using h2)
  exact List.reverse_inj.mp this
end Mine
end
section
open PySem
set_option tactic.hygienic false
namespace Mine
theorem fm_nat (y k : Nat) : ((y : Nat) : Int).fmod ((k : Nat) : Int) = ((y % k : Nat) : Int) := by
  rw [Int.fmod_eq_emod_of_nonneg _ (by lia)]
  rfl
theorem fd_nat (y k : Nat) : ((y : Nat) : Int).fdiv ((k : Nat) : Int) = ((y / k : Nat) : Int) := by
  rw [Int.fdiv_eq_ediv_of_nonneg _ (by lia)]
  rfl
theorem word_chr (n : Nat) (h : 58 ≤ n) : WordOk [n] where
  sl := by simp; lia
  short := by simp
  fin := ⟨[], n, rfl, fun h' => by have := h'.2; lia⟩
noncomputable def poolT : List T := [tx "a", tx "it's", tx "say \"b", tx "c d", tx "{", tx "},", tx "back\\", tx "#", tx ".."]
theorem pool_ok : ∀ w ∈ poolT, WordOk w := by
  have h : ∀ w ∈ poolT, (decide (47 ∉ w) && decide (w.length ≤ 6) && decide (w ≠ []) && decide (¬ (48 ≤ w.getLast?.getD 0 ∧ w.getLast?.getD 0 ≤ 57))) = true := by decide +kernel
  intro w hw
  have := h w hw
  simp only [Bool.and_eq_true, decide_eq_true_eq] at this
  obtain ⟨⟨⟨h1, h2⟩, h3⟩, h4⟩ := this
  refine ⟨h1, h2, w.dropLast, w.getLast h3, (List.dropLast_concat_getLast h3).symm, ?_⟩
  rw [List.getLast?_eq_some_getLast h3] at h4
  exact h4
noncomputable def gapT : List T := [tx "", tx " ", tx "\n\t", tx "# },{'\n"]
theorem gap_ok : ∀ g ∈ gapT, Gap g := by
  intro g hg
  simp only [gapT, List.mem_cons, List.not_mem_nil, or_false] at hg
  exact hg
end Mine
end
section
set_option genInjectivity false
set_option genSizeOf false
set_option genCtorIdx false
set_option bootstrap.genMatcherCode false
open PySem
set_option maxRecDepth 100000
set_option maxHeartbeats 4000000
set_option tactic.hygienic false
namespace Mine
theorem mro_dq : mroOf (.type "collections.deque") = pure [.type "collections.deque", .type "object"] := by rw [mroOf_type]; kernel_rfl
theorem lk_dq_new : typeLookup (.type "collections.deque") "__new__" = pure (some (.builtin "collections.deque.__new__")) := by rw [typeLookup_type, builtinLookup_eq_fast]; kernel_rfl
theorem lk_dq_init : typeLookup (.type "collections.deque") "__init__" = pure (some (.builtin "collections.deque.__init__")) := by rw [typeLookup_type, builtinLookup_eq_fast]; kernel_rfl
theorem lk_dq_pop : typeLookup (.type "collections.deque") "pop" = pure (some (.builtin "collections.deque.pop")) := by rw [typeLookup_type, builtinLookup_eq_fast]; kernel_rfl
theorem lk_dq_append : typeLookup (.type "collections.deque") "append" = pure (some (.builtin "collections.deque.append")) := by rw [typeLookup_type, builtinLookup_eq_fast]; kernel_rfl
theorem lk_dq_len : typeLookup (.type "collections.deque") "__len__" = pure (some (.builtin "collections.deque.__len__")) := by rw [typeLookup_type, builtinLookup_eq_fast]; kernel_rfl
theorem lk_dq_bool : typeLookup (.type "collections.deque") "__bool__" = pure none := by rw [typeLookup_type, builtinLookup_eq_fast]; kernel_rfl
theorem sub_dq : isSubtype (.type "collections.deque") (.type "collections.deque") = pure true := by rw [isSubtype_type]; kernel_rfl
theorem slot_dq_init : Slot "collections.deque" "__init__" "collections.deque.__init__" := Slot.of (owner := "collections.deque") (n := "__init__") lk_dq_init (by kernel_rfl) (by kernel_rfl) (by kernel_rfl) (.inl (by rw [PySem.W.Fast.findY_eq]; kernel_rfl)) sub_dq
theorem slot_dq_pop : Slot "collections.deque" "pop" "collections.deque.pop" := Slot.of (owner := "collections.deque") (n := "pop") lk_dq_pop (by kernel_rfl) (by kernel_rfl) (by kernel_rfl) (.inr (by rw [PySem.W.Fast.findY_eq]; kernel_rfl)) sub_dq
theorem slot_dq_append : Slot "collections.deque" "append" "collections.deque.append" := Slot.of (owner := "collections.deque") (n := "append") lk_dq_append (by kernel_rfl) (by kernel_rfl) (by kernel_rfl) (.inr (by rw [PySem.W.Fast.findY_eq]; kernel_rfl)) sub_dq
theorem slot_dq_len : Slot "collections.deque" "__len__" "collections.deque.__len__" := Slot.of (owner := "collections.deque") (n := "__len__") lk_dq_len (by kernel_rfl) (by kernel_rfl) (by kernel_rfl) (.inl (by rw [PySem.W.Fast.findY_eq]; kernel_rfl)) sub_dq
theorem entry_dq_new : entryFor table "collections.deque.__new__" = some Builtin.«collections.deque.__new__» := entryFor_of_tree (by kernel_rfl)
theorem entry_dq_init : entryFor table "collections.deque.__init__" = some Builtin.«collections.deque.__init__» := entryFor_of_tree (by kernel_rfl)
theorem entry_dq_pop : entryFor table "collections.deque.pop" = some Builtin.«collections.deque.pop» := entryFor_of_tree (by kernel_rfl)
theorem entry_dq_append : entryFor table "collections.deque.append" = some Builtin.«collections.deque.append» := entryFor_of_tree (by kernel_rfl)
theorem entry_dq_len : entryFor table "collections.deque.__len__" = some Builtin.«collections.deque.__len__» := entryFor_of_tree (by kernel_rfl)
theorem args_dq_pop (a : Value) : argsOk "collections.deque.pop" ⟨[a], []⟩ := by unfold argsOk; rw [PySem.W.Fast.signatureY_eq, PySem.W.Fast.te16078263539434579649]; kernel_rfl
theorem args_dq_append (a b : Value) : argsOk "collections.deque.append" ⟨[a, b], []⟩ := by unfold argsOk; rw [PySem.W.Fast.signatureY_eq, PySem.W.Fast.te16078263539434579649]; kernel_rfl
theorem args_dq_init (a : Value) : argsOk "collections.deque.__init__" ⟨[a], []⟩ := by unfold argsOk; rw [PySem.W.Fast.signatureY_eq, PySem.W.Fast.te16078263539434579649]; kernel_rfl
theorem args_dq_len (a : Value) : argsOk "collections.deque.__len__" ⟨[a], []⟩ := by unfold argsOk; rw [PySem.W.Fast.signatureY_eq, PySem.W.Fast.te16078263539434579649]; kernel_rfl
theorem type_dq_pop : typeOf (.builtin "collections.deque.pop") = pure (.type "method_descriptor") := by show builtinType _ = _; rw [builtinType_eq_fast]; kernel_rfl
theorem type_dq_append : typeOf (.builtin "collections.deque.append") = pure (.type "method_descriptor") := by show builtinType _ = _; rw [builtinType_eq_fast]; kernel_rfl
theorem called_dq : TypeCalled "collections.deque" "collections.deque.__new__" "collections.deque.__init__" :=
  ⟨by decide +kernel, by decide +kernel, ⟨_, _, mro_dq⟩, madeBy_type mro_dq lk_dq_new (by decide +kernel), by decide +kernel, sub_dq, slot_dq_init⟩
theorem typeCall_dq : checkTypeCall "collections.deque" ⟨[], []⟩ = pure () := by rw [PySem.W.Fast.te11612656972197000677]; kernel_rfl
theorem newCall_dq : checkBuiltinCall "collections.deque.__new__" ⟨[.type "collections.deque"], []⟩ = pure () := by rw [PySem.W.Fast.te10254737850608025244]; kernel_rfl
theorem plain_dq_new : plainId "collections.deque.__new__" = true := by decide +kernel
theorem plainAttrs_dq : PlainAttrs "collections.deque" :=
  ⟨⟨"collections.deque.__getattribute__", by rw [typeLookup_type, builtinLookup_eq_fast]; kernel_rfl, by decide +kernel⟩, by rw [typeLookup_type, builtinLookup_eq_fast]; kernel_rfl⟩
end Mine
end
section
set_option genInjectivity false
set_option genSizeOf false
set_option genCtorIdx false
set_option bootstrap.genMatcherCode false
open PySem
set_option maxRecDepth 100000
set_option maxHeartbeats 4000000
set_option tactic.hygienic false
namespace Mine
noncomputable def dqObj (xs : List Value) (n : Int) : Obj := { cls := .type "collections.deque", dict := none, data := .fields (#[.none, .int n 0] ++ xs.toArray), slots := #[] }
section
variable {prog : Program} {w : World} {A : Around} {E : Value → Shared → Prop} {s : Shared}
theorem dq_items {M : Model} {a : Addr} {xs : List Value} {n : Int} {Q : Array Value → Shared → Prop} (ho : s.heap.get? a = some (dqObj xs n)) (h : Q xs.toArray s) : wpAny M A (Builtin.Deque.items (.ref a)) Q E s := by
  unfold Builtin.Deque.items
  refine wpAny_bind (wpAny_fieldsOf ho rfl (wpAny_pure ?_))
  have : (#[Value.none, .int n 0] ++ xs.toArray).extract 2 (#[Value.none, .int n 0] ++ xs.toArray).size = xs.toArray := by
    simp
  rw [this]; exact h
theorem dq_change {M : Model} {a : Addr} {xs ys : List Value} {n : Int} {f : Array Value → Array Value} {Q : Unit → Shared → Prop} (ho : s.heap.get? a = some (dqObj xs n)) (hf : f xs.toArray = ys.toArray) (hz : ys.length ≤ 100000)
    (h : ∀ h', h'.get? a = some (dqObj ys (n + 1)) → Heap.SameBut a s.heap h' → Q () { s with heap := h' }) : wpAny M A (Builtin.Deque.change (.ref a) f) Q E s := by
  unfold Builtin.Deque.change Builtin.Deque.state
  dsimp only
  refine wpAny_bind (wpAny_bind (wpAny_field ho rfl (i := 1) (x := .int n 0) (by simp) (wpAny_pure ?_)))
  have e1 : (#[Value.none, .int n 0] ++ xs.toArray).extract 2 (#[Value.none, .int n 0] ++ xs.toArray).size = xs.toArray := by simp
  have e2 : (fun vs : Array Value => #[vs.getD 0 .none, rawInt (if true = true then n + 1 else n)] ++ f (vs.extract 2 vs.size)) (#[Value.none, .int n 0] ++ xs.toArray) = #[.none, .int (n + 1) 0] ++ ys.toArray := by
    dsimp only
    rw [e1, hf, if_pos rfl]
    have e0 : (#[Value.none, .int n 0] ++ xs.toArray).getD 0 .none = .none := by simp [Array.getD]
    rw [e0]; rfl
  refine wpAny_updateFields ho rfl (h _ ?_ (Heap.SameBut.update ..)) (by
    have e4 := congrArg Array.size e2
    dsimp only at e4
    rw [e4]
    have := sizeLine_eq
    simp; lia)
  have e3 : Obj.mapFields (fun vs : Array Value => #[vs.getD 0 .none, rawInt (if true = true then n + 1 else n)] ++ f (vs.extract 2 vs.size)) (dqObj xs n) = dqObj ys (n + 1) := by
    refine (?_ : ({ cls := .type "collections.deque", dict := none, data := .fields ((fun vs : Array Value => #[vs.getD 0 .none, rawInt (if true = true then n + 1 else n)] ++ f (vs.extract 2 vs.size)) (#[Value.none, .int n 0] ++ xs.toArray)), slots := #[] } : Obj) = _)
    rw [e2]; rfl
  rw [Heap.get?_update_self _ ho (by rw [e3]; rfl), e3]
theorem dq_append {a : Addr} {xs : List Value} {n : Int} {v : Value} {Q : Value → Shared → Prop} (ho : s.heap.get? a = some (dqObj xs n)) (hz : xs.length < 100000)
    (h : ∀ h', h'.get? a = some (dqObj (xs ++ [v]) (n + 1)) → Heap.SameBut a s.heap h' → Q .none { s with heap := h' }) : wpAny (model prog w) A (call (.builtin "collections.deque.append") [.ref a, v]) Q E s := by
  refine wpAny_call_entry slot_dq_append ⟨_, ho, rfl⟩ entry_dq_append ?_ (args_dq_append _ _)
  unfold Builtin.«collections.deque.append» Builtin.Deque.pushRight Builtin.Deque.maxlen
  refine wpAny_bind (wpAny_pure ?_)
  dsimp only
  refine wpAny_bind (wpAny_bind (dq_change (ys := xs ++ [v]) ho (by simp) (by simp; lia) fun h' hg hs => ?_))
  refine wpAny_bind (wpAny_bind (wpAny_field hg rfl (i := 0) (x := .none) (by simp) (wpAny_pure ?_)))
  refine wpAny_pure (wpAny_pure ?_)
  exact ⟨_, rfl, h h' hg hs⟩
theorem dq_pop {a : Addr} {xs : List Value} {n : Int} {v : Value} {Q : Value → Shared → Prop} (ho : s.heap.get? a = some (dqObj (xs ++ [v]) n)) (hz : xs.length < 100000)
    (h : ∀ h', h'.get? a = some (dqObj xs (n + 1)) → Heap.SameBut a s.heap h' → Q v { s with heap := h' }) : wpAny (model prog w) A (call (.builtin "collections.deque.pop") [.ref a]) Q E s := by
  refine wpAny_call_entry slot_dq_pop ⟨_, ho, rfl⟩ entry_dq_pop ?_ (args_dq_pop _)
  unfold Builtin.«collections.deque.pop»
  refine wpAny_bind (wpAny_pure ?_)
  refine wpAny_bind (dq_items ho ?_)
  have : (xs ++ [v]).toArray.back? = some v := by simp
  rw [this]
  refine wpAny_bind (dq_change (ys := xs) ho (by simp) (by lia) fun h' hg hs => ?_)
  exact wpAny_pure ⟨_, rfl, h h' hg hs⟩
theorem dq_truthy {a : Addr} {xs : List Value} {n : Int} {Q : Bool → Shared → Prop} (ho : s.heap.get? a = some (dqObj xs n)) (hz : xs.length < 100000) (h : Q (!xs.isEmpty) { s with toks := s.toks + 1 + 1 }) : wpAny (model prog w) A (truthy (.ref a)) Q E s := by
  have hT : s.TypeIs (.ref a) "collections.deque" := ⟨_, ho, rfl⟩
  have hne : (((xs.length : Nat) : Int) != 0) = !xs.isEmpty := by cases xs <;> simp <;> lia
  have key : wpAny (model prog w) A (runValue (.builtin "len" ⟨[.ref a], []⟩)) (fun r s' => r = .int (xs.length : Nat) (s.toks + 1) ∧ Q (!xs.isEmpty) s') E s := by
    refine wpAny_runValue (codeAny_builtin entry_len ?_)
    rw [Around.under_plainId plain_len _]
    unfold Builtin.«len»
    refine wpAny_bind (m := oneArg "len" _) (wpAny_pure ?_)
    refine wpAny_bind (m := callSpecial? (.ref a) (Str.ofString "__len__")) (wpAny_callSpecial?_slot (name := Str.ofString "__len__") hT slot_dq_len
      (wpAny_call_entry slot_dq_len hT entry_dq_len ?_ (args_dq_len _)))
    unfold Builtin.«collections.deque.__len__» Builtin.Deque.size
    refine wpAny_bind (wpAny_pure ?_)
    refine wpAny_bind (wpAny_bind (wpAny_fieldsOf ho rfl (wpAny_pure ?_)))
    have e : (#[Value.none, .int n 0] ++ xs.toArray).size - 2 = xs.length := by simp
    rw [e]
    refine wpAny_bind (wpAny_mkInt (wpAny_pure ⟨_, rfl, ?_⟩))
    refine wpAny_bind (wpAny_holding (wpAny_pure ?_))
    refine wpAny_bind (wpAny_letGo ?_)
    refine (?_ : wpAny _ _ (if ((xs.length : Nat) : Int) < 0 then _ else _) _ _ _)
    rw [if_neg (by lia)]
    refine (?_ : wpAny _ _ (if ((xs.length : Nat) : Int) ≥ 2 ^ 63 then _ else _) _ _ _)
    rw [if_neg (by lia)]
    exact wpAny_bind (wpAny_mkInt (wpAny_pure ⟨rfl, h⟩))
  unfold truthy
  first
    | refine wpAny_bind (wpAny_callSpecial?_none (name := Str.ofString "__bool__") hT lk_dq_bool ?_)
    | refine wpAny_bind (wpAny_pure (wpAny_bind (wpAny_callSpecial?_none (name := Str.ofString "__bool__") hT lk_dq_bool ?_)))
  first
    | refine wpAny_bind (wpAny_specialOf (name := Str.ofString "__len__") hT slot_dq_len.lookup ?_)
    | refine wpAny_bind (wpAny_pure (wpAny_bind (wpAny_specialOf (name := Str.ofString "__len__") hT slot_dq_len.lookup ?_)))
  first
    | exact wpAny_bind (wpAny_mono key (fun r s' h' => by obtain ⟨rfl, hq⟩ := h'; exact wpAny_pure (hne ▸ hq)) fun _ _ e => e)
    | exact wpAny_bind (wpAny_pure (wpAny_bind (wpAny_mono key (fun r s' h' => by obtain ⟨rfl, hq⟩ := h'; exact wpAny_pure (hne ▸ hq)) fun _ _ e => e)))
theorem code_dq_new {Q₁ : Value → Shared → Prop} (h : Q₁ (.ref s.heap.objs.size) { s with heap := s.heap.push (dqObj [] 0) }) :
    codeAny (model prog w) A (.call (.builtin "collections.deque.__new__") ⟨[.type "collections.deque"], []⟩) (wants Q₁ E) s := by
  refine codeAny_of_tree ?_
  show wpAny _ A.in1 (do checkBuiltinCall "collections.deque.__new__" ⟨[.type "collections.deque"], []⟩; again (.builtin "collections.deque.__new__" ⟨[.type "collections.deque"], []⟩)) _ _ s
  refine wpAny_bind (wpAny_of_eq newCall_dq (wpAny_pure ⟨plainId_quiet plain_dq_new _, codeAny_builtin entry_dq_new ?_⟩))
  rw [Around.under_plainId plain_dq_new _]
  unfold Builtin.«collections.deque.__new__» Builtin.Deque.newArgs Builtin.Deque.new
  have hsub := sub_dq
  have hty : Builtin.Deque.ty = "collections.deque" := rfl
  have hdict : typeHasDict (.type "collections.deque") = false := by decide +kernel
  obtain ⟨hp, g, d, tk, os⟩ := s
  rw [hty]
  dsimp only
  repeat (any_goals (first | assumption | wp_step))
theorem init_eq (a : Addr) : Builtin.«collections.deque.__init__» ⟨[.ref a], []⟩ = (do setField (.ref a) 0 .none; Builtin.Deque.clear (.ref a); ret .none) := by kernel_rfl
theorem call_dq {Q : Value → Shared → Prop} (h : ∀ h' tk, h'.get? s.heap.objs.size = some (dqObj [] 0) → Heap.SameBut s.heap.objs.size (s.heap.push (dqObj [] 0)) h' → Q (.ref s.heap.objs.size) { s with heap := h', toks := tk }) :
    wpAny (model prog w) A (call (.type "collections.deque") []) Q E s := by
  obtain ⟨c, tl, hmro⟩ := called_dq.mro
  have hmade := called_dq.made
  have hsub := called_dq.sub
  refine wpAny_call (codeAny_of_tree ?_)
  refine (?_ : wpAny _ _ (callAny (.type "collections.deque") _) _ _ _)
  refine wpAny_pure ⟨Code.quiet_builtin _ (by decide +kernel), codeAny_builtin F.entry_type_call ?_⟩
  rw [Around.under_plain (weight_type_call_type "collections.deque" [] []) rfl]
  have h1 := called_dq.notType
  have h2 := called_dq.canCreate
  have hct := typeCall_dq
  repeat (any_goals (first | assumption | wp_step))

  refine codeAny_mono (code_dq_new (E := E) (Q₁ := fun obj s₁ => obj = .ref s.heap.objs.size ∧ s₁ = { s with heap := s.heap.push (dqObj [] 0) }) ⟨rfl, rfl⟩) fun r s₁ hr => ?_
  cases r with
  | error e => exact hr
  | ok fl =>
    cases fl with
    | ret obj =>
      obtain ⟨rfl, rfl⟩ := hr
      have hS : (s.heap.push (dqObj [] 0)).get? s.heap.objs.size = some (dqObj [] 0) := Heap.get?_push_size _ rfl
      have hT : Shared.TypeIs { s with heap := s.heap.push (dqObj [] 0) } (.ref s.heap.objs.size) "collections.deque" := ⟨_, hS, rfl⟩
      have hli := called_dq.init.lookup
      have hbi := called_dq.init.bind (.ref s.heap.objs.size)
      repeat (any_goals (first | assumption | wp_step))

      refine codeAny_mono (codeAny_call_builtin (R := wants (fun r s₂ => r = .none ∧ Q (.ref s.heap.objs.size) s₂) E) called_dq.init.plain entry_dq_init (called_dq.init.check _ _ _ _ _ _ _ _ hT (args_dq_init _) ?_)) fun r₂ s₂ hr₂ => ?_
      · refine (?_ : wpAny _ _ (Builtin.«collections.deque.__init__» ⟨[.ref s.heap.objs.size], []⟩) _ _ _)
        rw [init_eq]
        refine wpAny_bind (wpAny_setField hS rfl (by simp) ?_)
        have e3 : Obj.mapFields (fun x : Array Value => x.setIfInBounds 0 .none) (dqObj [] 0) = dqObj [] 0 := rfl
        have hg : ((s.heap.push (dqObj [] 0)).update s.heap.objs.size (Obj.mapFields fun x => x.setIfInBounds 0 .none)).get? s.heap.objs.size = some (dqObj [] 0) := by
          rw [Heap.get?_update_self _ hS (by rw [e3]; rfl), e3]
        unfold Builtin.Deque.clear
        refine wpAny_bind (wpAny_bind (dq_items hg ?_))
        rw [if_neg (by simp)]
        refine wpAny_pure (wpAny_pure ?_)
        exact ⟨rfl, h _ _ hg (Heap.SameBut.update ..)⟩
      · cases r₂ with
        | error e => exact hr₂
        | ok fl₂ =>
          cases fl₂ with
          | ret r =>
            obtain ⟨rfl, hq⟩ := hr₂
            repeat (any_goals (first | assumption | wp_step))
          | _ => exact hr₂.elim
    | _ => exact hr.elim
end
end Mine
end
section
set_option genInjectivity false
set_option genSizeOf false
set_option genCtorIdx false
set_option bootstrap.genMatcherCode false
open PySem
set_option maxRecDepth 100000
set_option maxHeartbeats 4000000
set_option tactic.hygienic false
namespace Mine
theorem sub_ke : isSubtype (.type "KeyError") (.type "LookupError") = pure true := by rw [isSubtype_type]; kernel_rfl
section
variable {prog : Program} {w : World} {A : Around} {E : Value → Shared → Prop} {s : Shared}
theorem mapOf_keep {knd : KeyKind prog w Int} {h h' : Heap} {d : Addr} {f : Int → Option Value} (hm : h.MapOf knd d f) (hk : ∀ b o, h.get? b = some o → h'.get? b = some o) : h'.MapOf knd d f := by
  obtain ⟨o, es, ep, ho, r⟩ := hm
  exact ⟨o, es, ep, hk _ _ ho, r⟩
theorem tl_keep {d : Addr} {f : Int → Option Value} {c : Nat} {Q : Builtin.Str.Mapped → Shared → Prop} (hh : A.handled = none) (hm : s.heap.MapOf (intKind prog w) d f) (hd : (d == sysModules) = false) (hv : f (c : Int) = none)
    (H : ∀ h' tk, (∀ b o, s.heap.get? b = some o → h'.get? b = some o) → s.toks ≤ tk → Q .keep { s with heap := h', toks := tk }) : wpAny (model prog w) A (Builtin.Str.tableLookup (.ref d) c) Q E s := by
  unfold Builtin.Str.tableLookup
  refine wpAny_bind (wpAny_attempt ?_)
  refine wpAny_bind (wpAny_mkInt ?_)
  refine wpAny_getItem_missing_of (knd := intKind prog w) (k := (c : Int)) (intKind_is _ _ _ _) hd hh hm hv fun h' e hn => ?_
  obtain ⟨ob, t, ho, hc, _⟩ := hn.there
  dsimp only
  refine wpAny_bind (wpAny_isInstance (T := "KeyError") ⟨_, ho, hc⟩ sub_ke ?_)
  rw [if_pos rfl]
  exact wpAny_bind (wpAny_rule (wpAny_pure (H _ _ hn.keeps (by show s.toks ≤ s.toks + 1 + 1; lia))))
end
end Mine
end
section
set_option genInjectivity false
set_option genSizeOf false
set_option genCtorIdx false
set_option bootstrap.genMatcherCode false
open PySem
set_option maxRecDepth 100000
set_option maxHeartbeats 4000000
set_option tactic.hygienic false
namespace Mine
section
variable {prog : Program} {w : World} {A : Around} {E : Value → Shared → Prop} {s : Shared}
theorem forIn_inv {M : Model} {β : Type} {f : Nat → β → Sem (ForInStep β)} {g : β → Nat → β} {I : Nat → β → Prop} {P : Shared → Prop} : ∀ {l : List Nat} {st : β} {s : Shared} {Q : β → Shared → Prop},
    (∀ c n st s, c ∈ l → I (n + 1) st → P s → wpAny M A (f c st) (fun r s' => r = .yield (g st c) ∧ P s') E s) → (∀ c n st, I (n + 1) st → I n (g st c)) → I l.length st → P s → (∀ s', P s' → Q (l.foldl g st) s') → wpAny M A (forIn l st f) Q E s
  | [], st, s, Q, _, _, _, hP, hQ => by rw [List.forIn_nil]; exact wpAny_pure (hQ s hP)
  | c :: l, st, s, Q, hf, hg, hI, hP, hQ => by
    rw [List.forIn_cons]
    refine wpAny_bind (wpAny_mono (hf c _ st s (.head _) hI hP) ?_ fun _ _ e => e)
    rintro r s' ⟨rfl, hP'⟩
    exact forIn_inv (fun c n st s hc => hf c n st s (.tail _ hc)) hg (hg c _ st hI) hP' hQ
noncomputable abbrev TS := List Str × Nat × Bool × List (Nat × Option Nat) × Bool
noncomputable def tsg (st : TS) (c : Nat) : TS := (⟨#[c]⟩ :: st.1, st.2.1 + 1, st.2.2.1, st.2.2.2.1, st.2.2.2.2)
theorem tsg_fold : ∀ (l : List Nat) (st : TS), l.foldl tsg st = ((l.map fun c => (⟨#[c]⟩ : Str)).reverse ++ st.1, st.2.1 + l.length, st.2.2.1, st.2.2.2.1, st.2.2.2.2)
  | [], st => by simp
  | c :: l, st => by
    rw [List.foldl_cons, tsg_fold l]
    simp [tsg]; lia
theorem pieces_back (l : List Nat) : ((l.map fun c => (⟨#[c]⟩ : Str)).reverse ++ []).reverse.foldl (fun acc (p : Str) => acc ++ p.cps) #[] = l.toArray := by
  have h : ∀ (l : List Nat) (b : List Nat), (l.map fun c => (⟨#[c]⟩ : Str)).foldl (fun acc (p : Str) => acc ++ p.cps) b.toArray = (b ++ l).toArray := by
    intro l
    induction l with
    | nil => intro b; simp
    | cons c l ih =>
      intro b
      rw [List.map_cons, List.foldl_cons]
      have e : b.toArray ++ (⟨#[c]⟩ : Str).cps = (b ++ [c]).toArray := by simp
      rw [e, ih]; simp
  rw [List.append_nil, List.reverse_reverse]
  exact h l []
noncomputable def KeptBy (s s' : Shared) : Prop := ∃ h' tk, s' = { s with heap := h', toks := tk } ∧ (∀ b o, s.heap.get? b = some o → h'.get? b = some o) ∧ s.toks ≤ tk
theorem forIn_keep {M : Model} {l : List Nat} {st : TS} {f : Nat → TS → Sem (ForInStep TS)} {Q : TS → Shared → Prop} (h1 : st.2.1 + l.length ≤ 1000) (h2 : st.2.2.1 = false) (h3 : st.2.2.2.2 = false)
    (hf : ∀ c pieces total known h' tk, c ∈ l → total < 1000 → (∀ b o, s.heap.get? b = some o → h'.get? b = some o) → s.toks ≤ tk → wpAny M A (f c (pieces, total, false, known, false)) (fun r s' => r = .yield (tsg (pieces, total, false, known, false) c) ∧ KeptBy s s') E { s with heap := h', toks := tk })
    (hQ : ∀ h' tk, (∀ b o, s.heap.get? b = some o → h'.get? b = some o) → s.toks ≤ tk → Q (l.foldl tsg st) { s with heap := h', toks := tk }) : wpAny M A (forIn l st f) Q E s := by
  refine forIn_inv (g := tsg) (I := fun n (st : TS) => st.2.1 + n ≤ 1000 ∧ st.2.2.1 = false ∧ st.2.2.2.2 = false) (P := KeptBy s) ?_ ?_ ⟨h1, h2, h3⟩ ⟨s.heap, s.toks, rfl, fun _ _ e => e, Nat.le_refl _⟩ ?_
  · rintro c n ⟨pieces, total, fast, known, ad⟩ _ hc ⟨h1, rfl, rfl⟩ ⟨h', tk, rfl, hk, ht⟩
    exact hf c pieces total known h' tk hc (by dsimp only at h1; lia) hk ht
  · rintro c n ⟨pieces, total, fast, known, ad⟩ ⟨h1, h2, h3⟩
    exact ⟨by simp only [tsg] at h1 ⊢; lia, h2, h3⟩
  · rintro _ ⟨h', tk, rfl, hk, ht⟩
    exact hQ h' tk hk ht
theorem translate_keep {d : Addr} {f : Int → Option Value} {l : List Nat} {t : Tok} {Q : Fin → Shared → Prop} (hh : A.handled = none) (hm : s.heap.MapOf (intKind prog w) d f) (hd : (d == sysModules) = false) (hv : ∀ c ∈ l, f (c : Int) = none)
    (hl : l ≠ []) (hn : l.length ≤ 1000) (hf : l.all (· < 128) = false)
    (H : ∀ h' tk u, (∀ b o, s.heap.get? b = some o → h'.get? b = some o) → s.toks ≤ tk → Q (.done (.ret (.str ⟨l.toArray⟩ u))) { s with heap := h', toks := tk }) : wpAny (model prog w) A (Builtin.«str.translate» ⟨[.str ⟨l.toArray⟩ t, .ref d], []⟩) Q E s := by
  unfold Builtin.«str.translate»
  refine wpAny_bind (wpAny_of_eq (a := (Value.str ⟨l.toArray⟩ t, ⟨l.toArray⟩, Value.ref d)) (by rfl) ?_)
  dsimp only
  have e1 : ((⟨l.toArray⟩ : Str).length == 0) = false := by
    simp [Str.length]; exact hl
  rw [e1]
  simp only [Bool.false_eq_true, if_false]
  refine wpAny_bind ?_
  rw [← Array.forIn_toList]
  refine forIn_keep (by simp; lia) (by show (l.toArray.all fun x => decide (x < 128)) = false; simpa using hf) rfl (fun c pieces total known h' tk hc ht0 hk ht => ?_) fun h' tk hk ht => ?_
  · have e2 : Builtin.Str.tooLong total = false := by
      unfold Builtin.Str.tooLong
      rw [decide_eq_false_iff_not, sizeLine_eq]
      lia
    dsimp only
    simp only [e2, Bool.false_eq_true, if_false]
    exact wpAny_bind (tl_keep (s := { s with heap := h', toks := tk }) hh (mapOf_keep hm hk) hd (hv c hc) fun h'' tk' hk' ht' => wpAny_pure ⟨rfl, h'', tk', rfl, fun b o e => hk' _ _ (hk _ _ e), Nat.le_trans ht ht'⟩)
  · rw [show l.toArray.toList = l from rfl, tsg_fold]
    dsimp only
    have e3 : Builtin.Str.tooLong (0 + l.length) = false := by
      unfold Builtin.Str.tooLong
      rw [decide_eq_false_iff_not, sizeLine_eq]
      lia
    simp only [e3, Bool.false_eq_true, if_false]
    rw [pieces_back]
    unfold retStr
    refine wpAny_bind (wpAny_mkStr (wpAny_pure ?_) (by show (l.toArray).size ≤ sizeLine; rw [List.size_toArray, sizeLine_eq]; lia))
    exact H _ _ _ hk (by show s.toks ≤ tk + 1; lia)
end
end Mine
end
section
set_option genInjectivity false
set_option genSizeOf false
set_option genCtorIdx false
set_option bootstrap.genMatcherCode false
open PySem
set_option maxRecDepth 100000
set_option maxHeartbeats 4000000
set_option tactic.hygienic false
namespace Mine
theorem entry_fkl : entryFor table "dict.fromkeys.loop" = some Builtin.«dict.fromkeys.loop» := entryFor_of_tree (by kernel_rfl)
theorem plain_fkl : plainId "dict.fromkeys.loop" = true := by decide +kernel
noncomputable def kvsTo (l : List Nat) : List (Str × Value) := l.foldl (fun kvs c => stored kvs ⟨#[c]⟩ .none) []
theorem kvsTo_snoc (l : List Nat) (c : Nat) : kvsTo (l ++ [c]) = stored (kvsTo l) ⟨#[c]⟩ .none := by simp [kvsTo]
theorem stored_len {K : Type} [DecidableEq K] (kvs : List (K × Value)) (k : K) (v : Value) : (stored kvs k v).length ≤ kvs.length + 1 := by
  unfold stored
  split
  · rw [List.length_map]; lia
  · rw [List.length_append]; simp
section
variable {prog : Program} {w : World} {E : Value → Shared → Prop}
theorem fk_done {x : Str} {I D : Addr} {St : Nat → Heap → Prop} (hDI : D ≠ I) {R : Result → Shared → Prop} {A : Around} {s : Shared} (hA : A.handled = none) 
    (W : ∀ A' : Around, A'.handled = none → Walks prog w A' I [I] [I] x.cps.size (SignAt x) St) (hSt : St x.cps.size s.heap) (hD : s.heap.DictOf (strKind prog w) D (kvsTo x.cps.toList))
    (H : ∀ h' tk, h'.DictOf (strKind prog w) D (kvsTo x.cps.toList) → (∀ b o, b ≠ D → b ≠ I → s.heap.get? b = some o → h'.get? b = some o) → R (.ok (.ret (.ref D))) { s with heap := h', toks := tk }) :
    codeAny (model prog w) A (.builtin "dict.fromkeys.loop" ⟨[.ref D, .ref I, .none], []⟩) R s := by
  refine codeAny_builtin entry_fkl ?_
  rw [Around.under_plainId plain_fkl _]
  unfold Builtin.«dict.fromkeys.loop»
  dsimp only
  exact wpAny_bind ((W A.in1 hA).done s _ _ hSt fun h' tk hk => wpAny_pure (H h' tk (hD.at (h' := h') fun o e => hk D o (by simpa using hDI) e) fun b o h1 h2 e => hk b o (by simpa using h2) e))
theorem fk_step {x : Str} {I D : Addr} {St : Nat → Heap → Prop} (hDI : D ≠ I) (hx : x.cps.size ≤ 1000) {R : Result → Shared → Prop} {i : Nat} {A : Around} {s : Shared} (hA : A.handled = none) (hlt : i < x.cps.size)
    (W : ∀ A' : Around, A'.handled = none → Walks prog w A' I [I] [I] x.cps.size (SignAt x) St) (hSt : St i s.heap) (hD : s.heap.DictOf (strKind prog w) D (kvsTo (x.cps.toList.take i))) (hl : (kvsTo (x.cps.toList.take i)).length ≤ i)
    (H : ∀ h' tk, St (i + 1) h' → h'.DictOf (strKind prog w) D (kvsTo (x.cps.toList.take (i + 1))) → (∀ b o, b ≠ D → b ≠ I → s.heap.get? b = some o → h'.get? b = some o) → codeAny (model prog w) A (.builtin "dict.fromkeys.loop" ⟨[.ref D, .ref I, .none], []⟩) R { s with heap := h', toks := tk }) :
    codeAny (model prog w) A (.builtin "dict.fromkeys.loop" ⟨[.ref D, .ref I, .none], []⟩) R s := by
  refine codeAny_builtin entry_fkl ?_
  rw [Around.under_plainId plain_fkl _]
  unfold Builtin.«dict.fromkeys.loop»
  dsimp only
  refine wpAny_bind ((W A.in1 hA).item i s _ _ hlt hSt fun v h' tk hv hSt' hk => ?_)
  obtain ⟨c, u, hc, rfl⟩ := hv
  have hD' := hD.at (h' := h') fun o e => hk D o (by simpa using hDI) e
  dsimp only
  refine wpAny_bind (wpAny_typeOf (T := "dict") hD'.typeIs ?_)
  rw [if_pos (by decide)]
  refine wpAny_bind (wpAny_of_eq (a := D) rfl ?_)
  refine wpAny_bind (wpAny_holding (wpAny_dictSet_pairs (s := { s with heap := h', toks := tk }) (k := (⟨#[c]⟩ : Str)) (strKind_is _ _ _ _) hD' (fun h'' hD'' hs => ?_) (by rw [sizeLine_eq]; lia)))
  have et : x.cps.toList.take (i + 1) = x.cps.toList.take i ++ [c] := by
    rw [List.take_add_one, Array.getElem?_toList, hc]; rfl
  refine wpAny_pure ⟨plainId_quiet plain_fkl _, H h'' _ ((W A.in1 hA).frame _ _ _ hSt' fun b hb o e => hs.extBut b o (by
    have : b = I := by simpa using hb
    rw [this]; exact Ne.symm hDI) e) (by rw [et, kvsTo_snoc]; exact hD'') fun b o h1 h2 e => hs.extBut b o h1 (hk b o (by simpa using h2) e)⟩
theorem kvsTo_take (l : List Nat) (i : Nat) : (kvsTo (l.take i)).length ≤ i := by
  induction i with
  | zero => simp [kvsTo]
  | succ i ih =>
    rw [List.take_add_one]
    cases l[i]? with
    | none => simp; lia
    | some c =>
      refine (?_ : (kvsTo (l.take i ++ [c])).length ≤ _)
      rw [kvsTo_snoc]
      exact Nat.le_trans (stored_len _ _ _) (by lia)
theorem fk_loop {x : Str} {I D : Addr} {St : Nat → Heap → Prop} (hDI : D ≠ I) (hx : x.cps.size ≤ 1000) {R : Result → Shared → Prop} {A : Around} (hA : A.handled = none)
    (W : ∀ A' : Around, A'.handled = none → Walks prog w A' I [I] [I] x.cps.size (SignAt x) St) : ∀ (n i : Nat) (s : Shared), i + n = x.cps.size → St i s.heap → s.heap.DictOf (strKind prog w) D (kvsTo (x.cps.toList.take i)) →
    (∀ h' tk, h'.DictOf (strKind prog w) D (kvsTo x.cps.toList) → (∀ b o, b ≠ D → b ≠ I → s.heap.get? b = some o → h'.get? b = some o) → R (.ok (.ret (.ref D))) { s with heap := h', toks := tk }) →
    codeAny (model prog w) A (.builtin "dict.fromkeys.loop" ⟨[.ref D, .ref I, .none], []⟩) R s
  | 0, i, s, hn, hSt, hD, H => by
    obtain rfl : i = x.cps.size := by lia
    rw [List.take_of_length_le (by simp)] at hD
    exact fk_done hDI hA W hSt hD H
  | n + 1, i, s, hn, hSt, hD, H => fk_step hDI hx hA (by lia) W hSt hD (kvsTo_take _ _) fun h' tk h1 h2 h3 => fk_loop hDI hx hA W n (i + 1) _ (by lia) h1 h2 fun h4 tk4 h5 h6 => H h4 tk4 h5 fun b o z1 z2 e => h6 b o z1 z2 (h3 b o z1 z2 e)
end
end Mine
end
section
set_option genInjectivity false
set_option genSizeOf false
set_option genCtorIdx false
set_option bootstrap.genMatcherCode false
open PySem
set_option maxRecDepth 100000
set_option maxHeartbeats 4000000
set_option tactic.hygienic false
namespace Mine
theorem stored_mem {K : Type} [DecidableEq K] {kvs : List (K × Value)} {k : K} {v : Value} : ∀ p ∈ stored kvs k v, p.1 = k ∨ ∃ q ∈ kvs, q.1 = p.1 := by
  intro p hp
  unfold stored at hp
  split at hp
  · obtain ⟨q, hq, e⟩ := List.mem_map.mp hp
    refine .inr ⟨q, hq, ?_⟩
    rw [← e]; split <;> rfl
  · rcases List.mem_append.mp hp with h | h
    · exact .inr ⟨p, h, rfl⟩
    · have : p = (k, v) := by simpa using h
      exact .inl (by rw [this])
section
variable {prog : Program} {w : World} {A : Around} {E : Value → Shared → Prop} {s : Shared}
theorem mt_loop {T : Addr} {cs : List Nat} {B : DictEntry → PUnit → Sem (ForInStep PUnit)} (hB : ∀ c t v k, B ⟨k, .str ⟨#[c]⟩ t, v⟩ ⟨⟩ = (do let i ← mkInt (c : Nat); dictSet T i v; pure (ForInStep.yield PUnit.unit))) :
    ∀ {es : List DictEntry} {kvs : List (Str × Value)} {tab : List (Int × Value)} {s : Shared} {Q : PUnit → Shared → Prop}, Pairs (strKind prog w) es kvs → (∀ kv ∈ kvs, ∃ c ∈ cs, kv.1 = (⟨#[c]⟩ : Str)) → tab.length + es.length ≤ 2000 → s.heap.DictOf (intKind prog w) T tab → (∀ p ∈ tab, ∃ c ∈ cs, p.1 = (c : Int)) →
    (∀ h' tk tab', h'.DictOf (intKind prog w) T tab' → (∀ p ∈ tab', ∃ c ∈ cs, p.1 = (c : Int)) → (∀ b o, b ≠ T → s.heap.get? b = some o → h'.get? b = some o) → s.toks ≤ tk → Q ⟨⟩ { s with heap := h', toks := tk }) → wpAny (model prog w) A (forIn es PUnit.unit B) Q E s := by
  intro es
  induction es with
  | nil =>
    intro _ tab s Q _ _ _ hT hc H
    rw [List.forIn_nil]; exact wpAny_pure (H s.heap s.toks tab hT hc (fun _ _ _ e => e) (Nat.le_refl _))
  | cons e es ih =>
    intro _ tab s Q hps hone hl hT hc H
    cases hps with
    | @cons _ kv _ _ hk hv hp =>
    obtain ⟨c, hcc, hkc⟩ := hone _ (.head _)
    obtain ⟨hsh, key, val⟩ := e
    obtain ⟨t, ht⟩ := Value.isStrOf_shape hk
    dsimp only at ht
    subst ht
    rw [hkc, List.forIn_cons, hB]
    refine wpAny_bind (wpAny_bind (wpAny_mkInt ?_))
    refine wpAny_bind (wpAny_dictSet_pairs (k := (c : Int)) (intKind_is _ _ _ _) hT (fun h' hT' hs => ?_) (by rw [sizeLine_eq]; simp at hl; lia))
    refine wpAny_pure ?_
    refine ih hp (fun kv h => hone kv (.tail _ h)) (by have := stored_len tab (c : Int) val; simp at hl; lia) hT' (fun p hp => ?_) fun h2 tk2 tab2 a1 a2 a3 a4 => H h2 tk2 tab2 a1 a2 (fun b o hb e => a3 b o hb (hs.extBut b o hb e)) (by
      have : s.toks ≤ s.toks + 1 + 1 := by lia
      exact Nat.le_trans this a4)
    rcases stored_mem p hp with h | ⟨q, hq, h⟩
    · exact ⟨c, hcc, h⟩
    · obtain ⟨c', h1, h2⟩ := hc q hq
      exact ⟨c', h1, h ▸ h2⟩
theorem maketrans_ok {d : Addr} {kvs : List (Str × Value)} {cs : List Nat} {Q : Fin → Shared → Prop} (hd : s.heap.DictOf (strKind prog w) d kvs) (hone : kvs.map (·.1) = cs.map fun c => (⟨#[c]⟩ : Str)) (hn : cs.length ≤ 1000) (hsys : (d == sysModules) = false)
    (H : ∀ h' tk T tab, T = s.heap.objs.size → h'.DictOf (intKind prog w) T tab → (∀ p ∈ tab, ∃ c ∈ cs, p.1 = (c : Int)) → s.heap.get? T = none → (∀ b o, s.heap.get? b = some o → h'.get? b = some o) → s.toks ≤ tk → Q (.done (.ret (.ref T))) { s with heap := h', toks := tk }) :
    wpAny (model prog w) A (Builtin.«str.maketrans» ⟨[.ref d], []⟩) Q E s := by
  unfold Builtin.«str.maketrans» newDict
  refine wpAny_bind (wpAny_of_eq (a := ()) (by rfl) ?_)
  refine wpAny_bind (wpAny_of_eq (a := ()) (by rfl) ?_)
  refine wpAny_bind (wpAny_of_eq (a := none) (by rfl) ?_)
  refine wpAny_bind (wpAny_of_eq (a := none) (by rfl) ?_)
  refine wpAny_bind (wpAny_newObj_type ?_ (by first | size_fits | (show (0 : Nat) ≤ _; exact Nat.zero_le _) | (unfold sizeOk; simp)))
  dsimp only [List.headD]
  have hd1 : (s.heap.push { cls := .type "dict", dict := none, data := .dict #[] }).DictOf (strKind prog w) d kvs := hd.push _
  have hT : (s.heap.push { cls := .type "dict", dict := none, data := .dict #[] }).DictOf (intKind prog w) s.heap.objs.size [] := Heap.DictOf.new _
  refine wpAny_bind (wpAny_holding ?_)
  refine wpAny_bind (wpAny_typeOf (T := "dict") hd1.typeIs ?_)
  refine wpAny_bind (wpAny_of_eq (a := ()) (by rfl) ?_)
  refine wpAny_bind (wpAny_typeOf (T := "dict") hd1.typeIs ?_)
  rw [if_neg (by decide)]
  refine wpAny_bind (wpAny_of_eq (a := ()) (by unfold notTheModulesDict; rw [hsys]; rfl) ?_)
  obtain ⟨o, es, ep, ho, _, hdt, _, hp, _⟩ := hd1
  refine wpAny_bind (wpAny_dictEntries ho hdt ?_)
  refine wpAny_bind ?_
  rw [← Array.forIn_toList]
  have hlen : es.toList.length = kvs.length := Pairs.length hp
  have hkl : kvs.length = cs.length := by simpa using congrArg List.length hone
  refine mt_loop (T := s.heap.objs.size) (cs := cs) (tab := []) (fun c t v k => by rfl) hp (fun kv h => ?_) (by simp only [List.length_nil]; lia) hT (fun p hp => nomatch hp) ?_
  · have : kv.1 ∈ kvs.map (·.1) := List.mem_map.mpr ⟨kv, h, rfl⟩
    rw [hone] at this
    obtain ⟨c, hc, e⟩ := List.mem_map.mp this
    exact ⟨c, hc, e.symm⟩
  · intro h' tk tab hT' hc hk htk
    refine wpAny_pure (wpAny_pure (H h' tk _ tab rfl hT' hc ?_ (fun b o e => hk b o (Nat.ne_of_lt (Heap.lt_size e)) (Heap.get?_push_of_some _ e)) htk))
    cases q : s.heap.get? s.heap.objs.size with
    | none => rfl
    | some o => exact absurd (Heap.lt_size q) (Nat.lt_irrefl _)
end
end Mine
end
section
set_option genInjectivity false
set_option genSizeOf false
set_option genCtorIdx false
set_option bootstrap.genMatcherCode false
open PySem PySem.Calls PyProof.Rows
set_option maxRecDepth 100000
set_option maxHeartbeats 4000000
set_option tactic.hygienic false
namespace Mine
noncomputable def fkObj : Obj := { cls := .type "builtin_function_or_method", data := .fields #[.builtin "dict.fromkeys", .type "dict"] }
theorem entry_cdg : entryFor table "classmethod_descriptor.__get__" = some Builtin.«classmethod_descriptor.__get__» := entryFor_of_tree (by kernel_rfl)
theorem type_fk : typeOf (.builtin "dict.fromkeys") = pure (.type "classmethod_descriptor") := by show builtinType _ = _; rw [builtinType_eq_fast]; kernel_rfl
theorem type_dict : isType (.type "dict") = pure true := by first | rfl | kernel_rfl | (unfold isType; rw [isSubtype_type]; kernel_rfl)
theorem sub_dd : isSubtype (.type "dict") (.type "dict") = pure true := by rw [isSubtype_type]; kernel_rfl
section
variable {M : Model} {A : Around} {E : Value → Shared → Prop} {s : Shared}
theorem fk_get {P : Fin → Shared → Prop} (h : P (.done (.ret (.ref s.heap.objs.size))) { s with heap := s.heap.push fkObj }) :
    wpAny M A (Builtin.«classmethod_descriptor.__get__» ⟨[.builtin "dict.fromkeys", .none, .type "dict"], []⟩) P E s := by
  unfold Builtin.«classmethod_descriptor.__get__»
  refine wpAny_bind (wpAny_of_eq (a := (.builtin "dict.fromkeys", none, some (.type "dict"))) (by first | rfl | kernel_rfl) ?_)
  dsimp only
  refine wpAny_bind (wpAny_of_eq (a := .type "dict") (by first | rfl | kernel_rfl) ?_)
  refine wpAny_bind (wpAny_of_eq (a := true) type_dict ?_)
  rw [if_neg (by decide)]
  refine wpAny_bind (wpAny_of_eq (a := true) (by rw [isSubtype_type]; kernel_rfl) ?_)
  rw [if_neg (by decide)]
  exact wpAny_bind (wpAny_newObj_type (wpAny_pure h))
end
end Mine
end
section
set_option genInjectivity false
set_option genSizeOf false
set_option genCtorIdx false
set_option bootstrap.genMatcherCode false
open PySem PySem.Calls PyProof.Rows
set_option maxRecDepth 100000
set_option maxHeartbeats 4000000
set_option tactic.hygienic false
namespace Mine
theorem if_so' {α : Type} {M : Model} {A : Around} {E : Value → Shared → Prop} {s : Shared} {c : Bool} {a b : Sem α} {Q : α → Shared → Prop} (hc : c = true) (h : wpAny M A a Q E s) : wpAny M A (if c = true then a else b) Q E s := by
  subst hc
  exact h
theorem check_fk (v : Value) : checkBoundCall "dict.fromkeys" ⟨[.type "dict", v], []⟩ = pure () := by first | kernel_rfl | rfl
theorem entry_fk : entryFor table "dict.fromkeys" = some Builtin.«dict.fromkeys» := entryFor_of_tree (by kernel_rfl)
theorem quiet_fk {as : Args} : (Code.builtin "dict.fromkeys" as).quiet = true := Code.quiet_builtin _ (by decide +kernel)
section
variable {M : Model} {A : Around} {E : Value → Shared → Prop} {s : Shared}
theorem fk_callWith {pos : Pos} {u : Addr} {args : List (Bool × Sem Value)} {Q : Value → Shared → Prop} (hplain : args.any (·.1) = false)
    (h : wpAny M A (evalArgs (.ref u) true args []) (fun x s₁ => s₁.heap.get? u = some fkObj ∧ wpAny M A (call (.ref u) ([] ++ x.pos) x.kw) Q E s₁) E s) : wpAny M A (callWith pos (.ref u) [] args []) Q E s := by
  unfold callWith
  refine wpAny_bind (wpAny_holding (wpAny_mono h (fun x s₁ h₁ => wpAny_bind (wpAny_standAt ?_)) fun _ _ x => x))
  obtain ⟨ho, hcall⟩ := h₁
  simp only [hplain, List.any_nil, Bool.or_false]
  refine wpAny_bind (m := keeperOf (.ref u)) ?_
  unfold keeperOf
  refine wpAny_bind (wpAny_load ho ?_)
  simp only [fkObj, show (Value.type "builtin_function_or_method" != Value.type "method") = true by decide, show (Value.type "builtin_function_or_method" == Value.type "builtin_function_or_method" || Value.type "builtin_function_or_method" == Value.type "method-wrapper") = true by decide, if_true]
  refine wpAny_pure ?_
  exact wpAny_bind (wpAny_mono hcall (fun r s₂ hr => wpAny_bind (wpAny_holding (wpAny_point (wpAny_pure hr)))) fun _ _ x => x)
end
section
variable {prog : Program} {w : World} {A : Around} {E : Value → Shared → Prop} {s : Shared}
theorem fk_call {u : Addr} {x : Str} {t : Tok} {Q : Value → Shared → Prop} (ho : s.heap.get? u = some fkObj)
    (h : codeAny (model prog w) A (.builtin "dict.fromkeys" ⟨[.type "dict", .str x t], []⟩) (fun r s' => match r with | .ok (.ret v) => Q v s' | .ok _ => False | .error e => E e s') s) : wpAny (model prog w) A (call (.ref u) [.str x t]) Q E s := by
  refine wpAny_call (codeAny_of_tree ?_)
  refine (?_ : wpAny _ A.in1 (callAny (.ref u) ⟨[.str x t], []⟩) _ _ s)
  simp only [callAny]
  refine wpAny_bind (wpAny_load ho ?_)
  simp only [fkObj, show (Value.type "builtin_function_or_method" == Value.type "method" || Value.type "builtin_function_or_method" == Value.type "builtin_function_or_method" || Value.type "builtin_function_or_method" == Value.type "method-wrapper") = true by decide, if_true]
  refine if_so' (by decide) ?_
  refine wpAny_bind (wpAny_of_eq (a := ()) (check_fk _) ?_)
  exact wpAny_pure ⟨quiet_fk, h⟩
end
end Mine
end
section
set_option genInjectivity false
set_option genSizeOf false
set_option genCtorIdx false
set_option bootstrap.genMatcherCode false
open PySem PySem.Calls PyProof.Rows
set_option maxRecDepth 100000
set_option maxHeartbeats 4000000
set_option tactic.hygienic false
namespace Mine
section
variable {prog : Program} {w : World} {A : Around} {E : Value → Shared → Prop} {s : Shared}
theorem typeCall_dict_0 : checkTypeCall "dict" ⟨[], []⟩ = pure () := by rw [PySem.W.Fast.te11612656972197000677]; kernel_rfl
theorem newCall_dict_0 : checkBuiltinCall "dict.__new__" ⟨[.type "dict"], []⟩ = pure () := by rw [PySem.W.Fast.te10254737850608025244]; kernel_rfl
theorem args_dict_init_1 (a : Value) : argsOk "dict.__init__" ⟨[a], []⟩ := by unfold argsOk; rw [PySem.W.Fast.signatureY_eq, PySem.W.Fast.te16078263539434579649]; kernel_rfl
theorem code_dict_new0 {Q₁ : Value → Shared → Prop} (h : Q₁ (.ref s.heap.objs.size) { s with heap := s.heap.push { cls := .type "dict", data := .dict #[] } }) :
    codeAny (model prog w) A (.call (.builtin "dict.__new__") ⟨[.type "dict"], []⟩) (wants Q₁ E) s := by
  refine codeAny_call_builtin F.kt_plain_dict_new F.kt_entry_dict_new (wpAny_of_eq newCall_dict_0 ?_)
  have hsub := F.kt_sub_dict
  have hmro := F.kt_mro_dict
  obtain ⟨hp, g, d, tk, os⟩ := s
  unfold Builtin.«dict.__new__»
  wp_walk
  exact h
theorem call_dict0 {Q : Value → Shared → Prop} (h : Q (.ref s.heap.objs.size) { s with heap := s.heap.push { cls := .type "dict", data := .dict #[] } }) : wpAny (model prog w) A (call (.type "dict") []) Q E s := by
  refine callType_codes (Q₁ := fun obj s₁ => obj = .ref s.heap.objs.size ∧ s₁ = { s with heap := s.heap.push { cls := .type "dict", data := .dict #[] } }) F.kt_called_dict typeCall_dict_0 F.entry_dict_init (code_dict_new0 ⟨rfl, rfl⟩) ?_
  rintro obj s₁ ⟨rfl, rfl⟩
  have hnew : (s.heap.push { cls := .type "dict", data := .dict #[] }).DictOf (strKind prog w) s.heap.objs.size [] := Heap.DictOf.new s.heap
  refine ⟨hnew.typeIs, args_dict_init_1 _, ?_⟩
  unfold Builtin.«dict.__init__»
  refine wpAny_bind ?_
  unfold Builtin.Dict.selfAndRest
  refine wpAny_bind (wpAny_notOrdered_dict hnew.typeIs ?_)
  refine (?_ : wpAny _ _ (pure (s.heap.objs.size, ([] : List Value))) _ _ _)
  refine wpAny_pure ?_
  exact wpAny_of_eq (a := Fin.done (.ret .none)) (by first | rfl | kernel_rfl) ⟨rfl, h⟩
theorem fk_run {x : Str} {t : Tok} {R : Result → Shared → Prop} (hh : A.handled = none) (hx : x.cps.size ≤ 1000)
    (H : ∀ h' tk D, D = s.heap.objs.size → h'.DictOf (strKind prog w) D (kvsTo x.cps.toList) → s.heap.get? D = none → (∀ b o, s.heap.get? b = some o → h'.get? b = some o) → R (.ok (.ret (.ref D))) { s with heap := h', toks := tk }) : codeAny (model prog w) A (.builtin "dict.fromkeys" ⟨[.type "dict", .str x t], []⟩) R s := by
  refine codeAny_builtin entry_fk ?_
  rw [Around.under_plainId (by decide +kernel) _]
  unfold Builtin.«dict.fromkeys»
  dsimp only
  refine wpAny_bind (wpAny_of_eq (a := true) type_dict ?_)
  rw [if_neg (by decide)]
  refine wpAny_bind (wpAny_of_eq (a := true) sub_dd ?_)
  rw [if_neg (by decide)]
  rw [if_neg (by decide)]
  refine wpAny_bind (wpAny_rule (wpAny_bind (wpAny_pure (wpAny_bind (call_dict0 ?_)))))
  have hD : (s.heap.push { cls := .type "dict", data := .dict #[] }).DictOf (strKind prog w) s.heap.objs.size [] := Heap.DictOf.new s.heap
  refine wpAny_holding ?_
  refine wpAny_bind (wpAny_typeOf (T := "str") rfl ?_)
  refine wpAny_bind (wpAny_typeOf (T := "dict") hD.typeIs ?_)
  rw [if_neg (by decide)]
  refine wpAny_bind (wpAny_typeOf (T := "dict") hD.typeIs ?_)
  rw [if_neg (by decide)]
  refine wpAny_bind (wpAny_pyIter_str fun o St W hst => ?_)
  have hne : s.heap.objs.size ≠ (s.heap.push { cls := .type "dict", data := .dict #[] }).objs.size := by rw [Heap.size_push]; exact Nat.ne_of_lt (Nat.lt_succ_self _)
  refine wpAny_pure ⟨plainId_quiet plain_fkl _, fk_loop (St := St) hne hx hh W x.cps.size 0 _ (Nat.zero_add _) hst ?_ ?_⟩
  · exact hD.push _
  · intro h' tk hD' hk
    refine H h' tk _ rfl hD' ?_ fun b o e => hk b o (Nat.ne_of_lt (Heap.lt_size e)) ?_ (Heap.get?_push_of_some _ (Heap.get?_push_of_some _ e))
    · cases q : s.heap.get? s.heap.objs.size with
      | none => rfl
      | some o => exact absurd (Heap.lt_size q) (Nat.lt_irrefl _)
    · rw [Heap.size_push]; exact Nat.ne_of_lt (Nat.lt_succ_of_lt (Heap.lt_size e))
end
end Mine
end
section
set_option genInjectivity false
set_option genSizeOf false
set_option genCtorIdx false
set_option bootstrap.genMatcherCode false
open PySem PySem.Calls PyProof.Rows
set_option maxRecDepth 100000
set_option maxHeartbeats 4000000
set_option tactic.hygienic false
namespace Mine
theorem mk_look : typeLookup (.type "str") "maketrans" = pure (some (.builtin "str.maketrans")) := by rw [typeLookup_type, builtinLookup_eq_fast]; kernel_rfl
theorem mk_type : typeOf (.builtin "str.maketrans") = pure (.type "builtin_function_or_method") := by first | rfl | kernel_rfl
theorem mk_noget : typeLookup (.type "builtin_function_or_method") "__get__" = pure none := by rw [typeLookup_type, builtinLookup_eq_fast]; kernel_rfl
noncomputable def retsMk : PySem.Spec := fun _ R s => ∀ tk, s.toks ≤ tk → R (.ok (.ret (.builtin "str.maketrans"))) { s with toks := tk }
theorem meets_mk (x : Str) (t u : Tok) : Meets (Builtin.«object.__getattribute__» ⟨[.str x t, .str "maketrans" u], []⟩) retsMk :=
  Meets.of_wp fun prog w A R s hs => by
    obtain ⟨hp, g, d, tk, os⟩ := s
    have hT : ∀ s' : Shared, s'.TypeIs (.str x t) "str" := fun _ => rfl
    have f1 := mk_look
    have f2 := mk_type
    have f3 := mk_noget
    unfold Builtin.«object.__getattribute__»
    repeat (any_goals (first | assumption | wp_step))
    exact ⟨_, rfl, hs _ (Nat.le_refl _)⟩
section
variable {prog : Program} {w : World} {A : Around} {E : Value → Shared → Prop} {s : Shared}
theorem mk_getMethod {x : Str} {t : Tok} {pl : Sem Bool} {Q : Value × List Value → Shared → Prop} (h : ∀ tk, s.toks ≤ tk → Q (.builtin "str.maketrans", []) { s with toks := tk }) : wpAny (model prog w) A (getMethod (.str x t) "maketrans" pl) Q E s := by
  obtain ⟨hp, g, d, tk, os⟩ := s
  have hT : ∀ s' : Shared, s'.TypeIs (.str x t) "str" := fun _ => rfl
  have f1 := mk_look
  have f2 := mk_type
  have f4 := F.slot_str_getattribute.lookup
  have f6 := F.slot_str_getattribute.bind (.str x t)
  have f5 := am_str_getattr_none
  unfold getMethod specialOf getAttr getAttrBy
  repeat (any_goals (first | assumption | ((with_reducible show wpAny _ _ (call (Value.builtin "object.__getattribute__") _ _) _ _ _); refine call_meets F.slot_str_getattribute (hT _) F.entry_object_getattribute (F.args_object_getattribute_2 _ _) (meets_mk x t _) (fun tk' htk' => ?_)) | wp_step))
  refine (?_ : wpAny _ _ (handedOut _) _ _ _)
  unfold handedOut
  repeat (any_goals (first | assumption | wp_step))
  exact h tk' (by dsimp only at htk' ⊢; lia)
end
end Mine
end
section
set_option genInjectivity false
set_option genSizeOf false
set_option genCtorIdx false
set_option bootstrap.genMatcherCode false
open PySem PySem.Calls PyProof.Rows
set_option maxRecDepth 100000
set_option maxHeartbeats 4000000
set_option tactic.hygienic false
namespace Mine
noncomputable def setObj (es : Array (Int × Value)) (ep : Nat) (t : SetTable) : Obj := { cls := .type "set", dict := none, data := .set es ep t, slots := #[] }
noncomputable def t1 (led : Bool) : SetTable := (layNew (SetTable.fresh 0 0 led) #[] 0 (.bool false)).2.1
section
variable {prog : Program} {w : World} {A : Around} {E : Value → Shared → Prop} {s : Shared}
theorem hash_false {Q : Int → Shared → Prop} (h : Q 0 { s with toks := s.toks + 1 }) : wpAny (model prog w) A (pyHash (.bool false)) Q E s := by
  have hT : s.TypeIs (.bool false) "bool" := rfl
  unfold pyHash pyHashByItsType
  have hv : [Value.bool false].any Value.onHeap = false := rfl
  refine wpAny_bind ?_
  rw [cRoomFor, if_neg (by rw [hv]; exact Bool.false_ne_true)]; refine wpAny_pure ?_
  refine wpAny_bind (wpAny_specialOf hT F.slot_bool_hash.lookup ?_)
  rw [if_neg (by decide)]
  refine wpAny_bind (wpAny_specialOf hT F.slot_bool_hash.lookup ?_)
  refine (?_ : wpAny _ _ (callSpecialIfBoundUnlessNone? (.bool false) "__hash__" _ >>= _) Q E s)
  refine wpAny_bind (wpAny_callSpecialIfBoundUnlessNone?_slot hT F.slot_bool_hash
    (wpAny_call_entry F.slot_bool_hash hT F.entry_int_hash ?_ (F.args_int_hash_1 _)))
  refine (?_ : wpAny _ _ (do ret (← mkInt 0)) _ _ s)
  refine wpAny_ret_mkInt ?_
  exact wpAny_pure h
theorem set_add1 {a : Addr} {ep : Nat} {led : Bool} {Q : Value → Shared → Prop} (ho : s.heap.get? a = some (setObj #[(0, .bool false)] ep (t1 led))) (h : ∀ tk, s.toks ≤ tk → Q .none { s with toks := tk }) :
    wpAny (model prog w) A (call (.builtin "set.add") [.ref a, .bool false]) Q E s := by
  refine wpAny_call_entry F.slot_set_add (T := "set") ⟨_, ho, rfl⟩ F.entry_set_add ?_ (F.args_set_add_2 _ _)
  unfold Builtin.«set.add» Builtin.Frozenset.oneOther
  simp only [List.isEmpty_nil, bind_assoc]
  unfold Builtin.Frozenset.addrOf setAdd
  refine wpAny_bind (wpAny_pure ?_)
  try dsimp only
  refine wpAny_bind (wpAny_pure ?_)
  try dsimp only
  refine wpAny_bind ?_
  refine wpAny_holding ?_
  refine wpAny_bind (hash_false ?_)
  unfold setAddHashed setAddHashedIn
  refine wpAny_holding (wpAny_bind (wpAny_setState_of (s := { s with toks := s.toks + 1 }) (o := setObj #[(0, .bool false)] ep (t1 led)) ho rfl (by cases led <;> decide) ?_))
  dsimp only
  rw [if_pos (by simp [byScan, Value.scannable, scanBound])]
  unfold setAddByScan
  refine wpAny_bind ?_
  refine wpAny_bind (wpAny_rule ?_)
  unfold setScan
  dsimp only
  unfold setScanFrom
  rw [if_pos (by decide)]
  refine wpAny_bind (wpAny_bind ?_)
  unfold setEpoch
  refine wpAny_bind (wpAny_setState_of (s := { s with toks := s.toks + 1 }) (o := setObj #[(0, .bool false)] ep (t1 led)) ho rfl (by cases led <;> decide) ?_)
  refine wpAny_pure ?_
  unfold eqBool
  rw [if_pos (by decide)]
  refine wpAny_bind (wpAny_holding (wpAny_bind (wpAny_rule (wpAny_pure ?_))))
  dsimp only
  rw [if_pos (by rfl)]
  refine wpAny_pure (wpAny_pure (wpAny_pure ?_))
  exact wpAny_pure ⟨_, rfl, h _ (Nat.le_succ _)⟩
theorem set_add0 {a : Addr} {led : Bool} {Q : Value → Shared → Prop} (ho : s.heap.get? a = some (setObj #[] 0 (SetTable.fresh 0 0 led)))
    (h : ∀ h' tk ep, s.toks ≤ tk → h'.get? a = some (setObj #[(0, .bool false)] ep (t1 led)) → Heap.SameBut a s.heap h' → Q .none { s with heap := h', toks := tk }) :
    wpAny (model prog w) A (call (.builtin "set.add") [.ref a, .bool false]) Q E s := by
  refine wpAny_call_entry F.slot_set_add (T := "set") ⟨_, ho, rfl⟩ F.entry_set_add ?_ (F.args_set_add_2 _ _)
  unfold Builtin.«set.add» Builtin.Frozenset.oneOther
  simp only [List.isEmpty_nil, bind_assoc]
  unfold Builtin.Frozenset.addrOf setAdd
  refine wpAny_bind (wpAny_pure ?_)
  try dsimp only
  refine wpAny_bind (wpAny_pure ?_)
  try dsimp only
  refine wpAny_bind ?_
  refine wpAny_holding ?_
  refine wpAny_bind (hash_false ?_)
  unfold setAddHashed setAddHashedIn
  refine wpAny_holding (wpAny_bind (wpAny_setState_of (s := { s with toks := s.toks + 1 }) (o := setObj #[] 0 (SetTable.fresh 0 0 led)) ho rfl (by cases led <;> decide) ?_))
  dsimp only
  rw [if_pos (by simp [byScan, Value.scannable, scanBound])]
  unfold setAddByScan
  refine wpAny_bind ?_
  refine wpAny_bind (wpAny_rule ?_)
  unfold setScan
  dsimp only
  unfold setScanFrom
  refine wpAny_bind (wpAny_pure ?_)
  dsimp only
  have e1 : layNew (SetTable.fresh 0 0 led) #[] 0 (.bool false) = (#[(0, .bool false)], t1 led, false, false) := by cases led <;> rfl
  rw [e1]
  dsimp only
  refine wpAny_bind (wpAny_of_eq (a := ()) (by rfl) ?_)
  rw [if_pos (by cases led <;> rfl)]
  refine wpAny_bind (wpAny_of_eq (a := true) (by rfl) ?_)
  rw [if_pos rfl]
  refine wpAny_bind (wpAny_storeSet_of (s := { s with toks := s.toks + 1 }) (o := setObj #[] 0 (SetTable.fresh 0 0 led)) ho rfl ?_ (by show 1 ≤ sizeLine; rw [sizeLine_eq]; decide))
  rw [if_neg (by cases led <;> decide)]
  refine wpAny_pure (wpAny_pure (wpAny_pure ⟨_, rfl, ?_⟩))
  refine h _ _ 1 (Nat.le_succ _) ?_ (Heap.SameBut.update ..)
  have := Heap.get?_update_self (Obj.putSet #[(0, .bool false)] (t1 led)) ho (by rfl)
  rw [this]; rfl
theorem newSet_ok {Q : Value → Shared → Prop} (h : Q (.ref s.heap.objs.size) { s with heap := s.heap.push (setObj #[] 0 (SetTable.fresh 0 0 (!w.params.followText "set-order"))) }) : wpAny (model prog w) A (newSet (.type "set")) Q E s := by
  unfold newSet setsByText
  refine wpAny_bind (wpAny_bind (wpAny_askSetting (wpAny_pure ?_)))
  dsimp only
  exact wpAny_newObj_type h (by unfold sizeOk; first | rfl | simp | decide)
theorem slot_si_next : Slot "set_iterator" "__next__" "set_iterator.__next__" :=
  .of (owner := "set_iterator") (n := "__next__") (by rw [typeLookup_type, builtinLookup_eq_fast]; kernel_rfl) (by decide +kernel) (by decide +kernel) (by decide +kernel)
    (.inl (by rw [PySem.W.Fast.findY_eq]; kernel_rfl)) (by rw [isSubtype_type]; kernel_rfl)
theorem entry_si_next : entryFor table "set_iterator.__next__" = some Builtin.«set_iterator.__next__» := entryFor_of_tree (by kernel_rfl)
theorem args_si_next (a : Value) : argsOk "set_iterator.__next__" ⟨[a], []⟩ := by unfold argsOk; rw [PySem.W.Fast.signatureY_eq, PySem.W.Fast.te16078263539434579649]; kernel_rfl
theorem entry_set_iter : entryFor table "set.__iter__" = some Builtin.«frozenset.__iter__» :=
  entryFor_alias (id' := "frozenset.__iter__") (by kernel_rfl) (by decide +kernel) (by decide +kernel) (by kernel_rfl)
noncomputable def siObj (next i : Int) (a : Addr) (ep : Nat) : Obj := { cls := .type "set_iterator", data := .fields #[.int next 0, .int i 0, .ref a, .int 1 0, .int ep 0] }
theorem set_iter1 {a : Addr} {ep : Nat} {led : Bool} {Q : Value → Shared → Prop} (ho : s.heap.get? a = some (setObj #[(0, .bool false)] ep (t1 led)))
    (h : Q (.ref s.heap.objs.size) { s with heap := s.heap.push (siObj 0 0 a ep) }) : wpAny (model prog w) A (pyIter (.ref a)) Q E s := by
  have hT : s.TypeIs (.ref a) "set" := ⟨_, ho, rfl⟩
  have hst : ∀ {α : Type} {A' : Around} {E' : Value → Shared → Prop} {f : (Array (Int × Value) × Nat × SetTable) → Sem α} {Q' : α → Shared → Prop}, wpAny (model prog w) A' (f (#[(0, .bool false)], ep, t1 led)) Q' E' s → wpAny (model prog w) A' (setState a >>= f) Q' E' s :=
    fun h => wpAny_bind (wpAny_setState_of (o := setObj #[(0, .bool false)] ep (t1 led)) ho rfl (by cases led <;> decide) h)
  refine wpAny_pyIter_slot hT F.slot_set_iter (wpAny_call_entry F.slot_set_iter hT entry_set_iter ?_ (F.args_set_iter_1 _))
  unfold Builtin.«frozenset.__iter__» Builtin.Frozenset.slot0 Builtin.Frozenset.sizeOf setEntries setDrawn setsByText setEpoch
  refine wpAny_bind (wpAny_bind (wpAny_of_eq (a := (Value.ref a, [])) (by rfl) (wpAny_pure ?_)))
  refine wpAny_bind (wpAny_bind (hst (wpAny_pure (wpAny_pure ?_))))
  refine wpAny_bind (hst (wpAny_bind (wpAny_bind (wpAny_askSetting (wpAny_pure (wpAny_pure ?_))))))
  dsimp only
  rw [if_neg (by intro h; obtain ⟨_, h2⟩ := Bool.and_eq_true_iff.mp h; cases led <;> exact absurd h2 (by decide))]
  refine wpAny_bind (wpAny_pure ?_)
  refine wpAny_bind (hst (wpAny_pure ?_))
  refine wpAny_bind (wpAny_newObj_type (wpAny_pure ⟨_, rfl, "set_iterator", _, ⟨_, Heap.get?_push_size _ rfl, rfl⟩, slot_si_next.lookup, h⟩) (by size_fits))
theorem setNext_0 {a : Addr} {ep : Nat} {led : Bool} {Q : Option (Value × Nat) → Shared → Prop} (hled : led = true ∨ w.params.followText "set-order" = true) (ho : s.heap.get? a = some (setObj #[(0, .bool false)] ep (t1 led)))
    (h : Q (some (.bool false, if w.params.followText "set-order" then 0 else 1)) s) : wpAny (model prog w) A (setNext a 0 0 ep) Q E s := by
  have hst : ∀ {α : Type} {A' : Around} {E' : Value → Shared → Prop} {f : (Array (Int × Value) × Nat × SetTable) → Sem α} {Q' : α → Shared → Prop}, wpAny (model prog w) A' (f (#[(0, .bool false)], ep, t1 led)) Q' E' s → wpAny (model prog w) A' (setState a >>= f) Q' E' s :=
    fun h => wpAny_bind (wpAny_setState_of (o := setObj #[(0, .bool false)] ep (t1 led)) ho rfl (by cases led <;> decide) h)
  unfold setNext
  refine hst ?_
  dsimp only
  unfold setsByText
  refine wpAny_bind (wpAny_bind (wpAny_askSetting (wpAny_pure ?_)))
  dsimp only
  cases hb : w.params.followText "set-order" with
  | true =>
    rw [hb] at h
    rw [if_pos (show (model prog w).w.params.followText "set-order" = true from hb), if_neg (by simp)]
    unfold setWalk setsByText
    refine wpAny_bind (hst (wpAny_bind (wpAny_bind (wpAny_askSetting (wpAny_pure ?_)))))
    rw [if_pos (show (model prog w).w.params.followText "set-order" = true from hb)]
    refine wpAny_bind (wpAny_askSetting (wpAny_pure (wpAny_pure ?_)))
    have e : pickOrder ((model prog w).w.params.setOrder a ep) #[((0 : Int), Value.bool false)] = #[(0, .bool false)] := by
      simp [pickOrder, pickOrder.go, Nat.mod_one]
    rw [e]
    exact h
  | false =>
    rw [hb] at h
    have hl : led = true := hled.elim id (fun q => by rw [hb] at q; cases q)
    subst hl
    rw [if_neg (by show ¬ w.params.followText "set-order" = true; rw [hb]; decide), if_neg (by decide)]
    refine wpAny_bind (wpAny_of_eq (a := ()) (by rfl) (wpAny_pure ?_))
    exact h
theorem setNext_1 {a : Addr} {ep : Nat} {led : Bool} {Q : Option (Value × Nat) → Shared → Prop} (hled : led = true ∨ w.params.followText "set-order" = true) (ho : s.heap.get? a = some (setObj #[(0, .bool false)] ep (t1 led)))
    (h : Q none s) : wpAny (model prog w) A (setNext a (if w.params.followText "set-order" then 0 else 1) 1 ep) Q E s := by
  have hst : ∀ {α : Type} {A' : Around} {E' : Value → Shared → Prop} {f : (Array (Int × Value) × Nat × SetTable) → Sem α} {Q' : α → Shared → Prop}, wpAny (model prog w) A' (f (#[(0, .bool false)], ep, t1 led)) Q' E' s → wpAny (model prog w) A' (setState a >>= f) Q' E' s :=
    fun h => wpAny_bind (wpAny_setState_of (o := setObj #[(0, .bool false)] ep (t1 led)) ho rfl (by cases led <;> decide) h)
  unfold setNext
  refine hst ?_
  dsimp only
  unfold setsByText
  refine wpAny_bind (wpAny_bind (wpAny_askSetting (wpAny_pure ?_)))
  dsimp only
  cases hb : w.params.followText "set-order" with
  | true =>
    rw [if_pos (show (model prog w).w.params.followText "set-order" = true from hb), if_neg (by simp)]
    unfold setWalk setsByText
    refine wpAny_bind (hst (wpAny_bind (wpAny_bind (wpAny_askSetting (wpAny_pure ?_)))))
    rw [if_pos (show (model prog w).w.params.followText "set-order" = true from hb)]
    refine wpAny_bind (wpAny_askSetting (wpAny_pure (wpAny_pure ?_)))
    have e : pickOrder ((model prog w).w.params.setOrder a ep) #[((0 : Int), Value.bool false)] = #[(0, .bool false)] := by
      simp [pickOrder, pickOrder.go, Nat.mod_one]
    rw [e]
    exact h
  | false =>
    have hl : led = true := hled.elim id (fun q => by rw [hb] at q; cases q)
    subst hl
    rw [if_neg (by show ¬ w.params.followText "set-order" = true; rw [hb]; decide), if_neg (by decide)]
    refine wpAny_bind (wpAny_of_eq (a := ()) (by rfl) (wpAny_pure ?_))
    exact h
theorem set_next1 {a I : Addr} {ep : Nat} {led : Bool} {Q : Option Value → Shared → Prop} (hled : led = true ∨ w.params.followText "set-order" = true) (ho : s.heap.get? a = some (setObj #[(0, .bool false)] ep (t1 led))) (hi : s.heap.get? I = some (siObj 0 0 a ep))
    (h : ∀ h', h'.get? I = some (siObj ((if w.params.followText "set-order" then 0 else 1 : Nat) : Int) 1 a ep) → Heap.SameBut I s.heap h' → Q (some (.bool false)) { s with heap := h' }) : wpAny (model prog w) A (pyNext (.ref I)) Q E s := by
  have hst : ∀ {α : Type} {A' : Around} {E' : Value → Shared → Prop} {f : (Array (Int × Value) × Nat × SetTable) → Sem α} {Q' : α → Shared → Prop}, wpAny (model prog w) A' (f (#[(0, .bool false)], ep, t1 led)) Q' E' s → wpAny (model prog w) A' (setState a >>= f) Q' E' s :=
    fun h => wpAny_bind (wpAny_setState_of (o := setObj #[(0, .bool false)] ep (t1 led)) ho rfl (by cases led <;> decide) h)
  have hT : s.TypeIs (.ref I) "set_iterator" := ⟨_, hi, rfl⟩
  unfold pyNext
  refine wpAny_bind (wpAny_attempt (wpAny_callSpecial?_slot (name := Str.ofString "__next__") hT slot_si_next
    (wpAny_call_entry slot_si_next hT entry_si_next ?_ (args_si_next _))))
  unfold Builtin.«set_iterator.__next__» fieldsOf setEntries
  refine wpAny_bind (wpAny_of_eq (a := (Value.ref I, [])) (by rfl) ?_)
  dsimp only
  refine wpAny_bind (wpAny_bind (wpAny_load hi (wpAny_pure ?_)))
  dsimp only [siObj]
  refine wpAny_bind (hst (wpAny_pure ?_))
  rw [if_neg (by simp)]
  refine wpAny_bind (setNext_0 (ep := ep) hled ho ?_)
  dsimp only
  refine wpAny_bind (wpAny_setField_rec hi (by simp) fun h1 hi1 hs1 => ?_)
  refine wpAny_bind (wpAny_setField_rec hi1 (by simp) fun h2 hi2 hs2 => ?_)
  refine wpAny_pure ⟨_, rfl, wpAny_pure (h h2 ?_ (hs1.trans hs2))⟩
  rw [hi2]; rfl
theorem si_isStop : isSubtype (.type "StopIteration") (.type "StopIteration") = pure true := by rw [isSubtype_type]; kernel_rfl
theorem set_stop1 {a I : Addr} {ep : Nat} {led : Bool} {Q : Option Value → Shared → Prop} (hh : A.handled = none) (hled : led = true ∨ w.params.followText "set-order" = true) (ho : s.heap.get? a = some (setObj #[(0, .bool false)] ep (t1 led))) (hi : s.heap.get? I = some (siObj ((if w.params.followText "set-order" then 0 else 1 : Nat) : Int) 1 a ep))
    (h : ∀ h', Heap.ExtBut I s.heap h' → Q none { s with heap := h' }) : wpAny (model prog w) A (pyNext (.ref I)) Q E s := by
  have hst : ∀ {α : Type} {A' : Around} {E' : Value → Shared → Prop} {f : (Array (Int × Value) × Nat × SetTable) → Sem α} {Q' : α → Shared → Prop}, wpAny (model prog w) A' (f (#[(0, .bool false)], ep, t1 led)) Q' E' s → wpAny (model prog w) A' (setState a >>= f) Q' E' s :=
    fun h => wpAny_bind (wpAny_setState_of (o := setObj #[(0, .bool false)] ep (t1 led)) ho rfl (by cases led <;> decide) h)
  have hT : s.TypeIs (.ref I) "set_iterator" := ⟨_, hi, rfl⟩
  unfold pyNext
  refine wpAny_bind (wpAny_attempt (wpAny_callSpecial?_slot (name := Str.ofString "__next__") hT slot_si_next
    (wpAny_call_entry slot_si_next hT entry_si_next ?_ (args_si_next _))))
  unfold Builtin.«set_iterator.__next__» fieldsOf setEntries
  refine wpAny_bind (wpAny_of_eq (a := (Value.ref I, [])) (by rfl) ?_)
  dsimp only
  refine wpAny_bind (wpAny_bind (wpAny_load hi (wpAny_pure ?_)))
  dsimp only [siObj]
  refine wpAny_bind (hst (wpAny_pure ?_))
  rw [if_neg (by simp)]
  refine wpAny_bind (setNext_1 (ep := ep) hled ho ?_)
  dsimp only
  refine wpAny_bind (wpAny_setField_rec hi (by simp) fun h1 hi1 hs1 => ?_)
  refine wpAny_bind ?_
  simp only [newExc, newTuple]
  refine wpAny_bind (wpAny_newObj_type ?_ (by size_fits))
  refine wpAny_bind (m := firstArgMember _ _) (wpAny_of_eq (a := Value.none) (by first | rfl | (simp only [firstArgMember]; rfl)) ?_)
  refine wpAny_newObj_type ?_ (by size_fits)
  simp only [raiseNew]
  refine wpAny_bind (wpAny_handled ?_)
  rw [show A.in1.handled = none from hh]
  refine wpAny_bind (wpAny_pure (wpAny_throw ?_))
  refine wpAny_bind (wpAny_isInstance (T := "StopIteration") (b := true) ⟨_, Heap.get?_push_size _ rfl, rfl⟩ si_isStop ?_)
  exact wpAny_pure (h _ ((hs1.extBut.push _).push _))
theorem set_unpack {a : Addr} {ep : Nat} {led : Bool} {Q : List Value → Shared → Prop} (hh : A.handled = none) (hled : led = true ∨ w.params.followText "set-order" = true) (ho : s.heap.get? a = some (setObj #[(0, .bool false)] ep (t1 led)))
    (h : ∀ h', Heap.ExtBut s.heap.objs.size s.heap h' → Q [.bool false] { s with heap := h' }) : wpAny (model prog w) A (unpackItems (.ref a) 1 none) Q E s := by
  have hT : s.TypeIs (.ref a) "set" := ⟨_, ho, rfl⟩
  have hne : a ≠ s.heap.objs.size := Nat.ne_of_lt (Heap.lt_size ho)
  unfold unpackItems
  refine wpAny_bind ?_
  unfold notIterableAtAll
  refine wpAny_bind (wpAny_specialOf hT F.slot_set_iter.lookup ?_)
  refine wpAny_pure ?_
  simp only [Bool.false_eq_true, if_false]
  refine wpAny_bind (wpAny_holding (set_iter1 ho ?_))
  have ho1 : (s.heap.push (siObj 0 0 a ep)).get? a = some (setObj #[(0, .bool false)] ep (t1 led)) := Heap.get?_push_of_some _ ho
  refine wpAny_bind (wpAny_holding ?_)
  unfold draw
  refine wpAny_bind (set_next1 hled ho1 (Heap.get?_push_size _ rfl) fun h1 hi1 hs1 => ?_)
  dsimp only
  have ho2 : h1.get? a = some (setObj #[(0, .bool false)] ep (t1 led)) := hs1.extBut a _ hne ho1
  refine wpAny_bind (wpAny_holding ?_)
  unfold draw
  refine wpAny_pure (wpAny_pure ?_)
  rw [if_neg (by simp)]
  refine wpAny_bind (wpAny_holding (set_stop1 hh hled ho2 hi1 fun h2 he2 => ?_))
  simp only [Option.isSome_none, Bool.false_eq_true, if_false]
  exact wpAny_pure (h h2 fun b o hb e => he2 b o hb (hs1.extBut b o hb (Heap.get?_push_of_some _ e)))
end
end Mine
end
section
set_option genInjectivity false
set_option genSizeOf false
set_option genCtorIdx false
set_option bootstrap.genMatcherCode false
open PySem PySem.Calls PyProof.Rows
open AutoSeq1 (wpAny_loadPart')
set_option maxRecDepth 100000
set_option maxHeartbeats 4000000
set_option tactic.hygienic false
namespace Mine
theorem slot_map_next : Slot "map" "__next__" "map.__next__" :=
  .of (owner := "map") (n := "__next__") (by rw [typeLookup_type, builtinLookup_eq_fast]; kernel_rfl) (by decide +kernel) (by decide +kernel) (by decide +kernel)
    (.inl (by rw [PySem.W.Fast.findY_eq]; kernel_rfl)) (by rw [isSubtype_type]; kernel_rfl)
theorem slot_map_iter : Slot "map" "__iter__" "map.__iter__" :=
  .of (owner := "map") (n := "__iter__") (by rw [typeLookup_type, builtinLookup_eq_fast]; kernel_rfl) (by decide +kernel) (by decide +kernel) (by decide +kernel)
    (.inl (by rw [PySem.W.Fast.findY_eq]; kernel_rfl)) (by rw [isSubtype_type]; kernel_rfl)
theorem slot_map_init : Slot "map" "__init__" "object.__init__" :=
  .of (owner := "object") (n := "__init__") (by rw [typeLookup_type, builtinLookup_eq_fast]; kernel_rfl) (by decide +kernel) (by decide +kernel) (by decide +kernel)
    (.inl (by rw [PySem.W.Fast.findY_eq]; kernel_rfl)) (by rw [isSubtype_type]; kernel_rfl)
theorem entry_map_next : entryFor table "map.__next__" = some Builtin.«map.__next__» := entryFor_of_tree (by kernel_rfl)
theorem entry_map_iter : entryFor table "map.__iter__" = some Builtin.«dict_keyiterator.__iter__» := entryFor_alias (id' := "dict_keyiterator.__iter__") (by kernel_rfl) (by decide +kernel) (by decide +kernel) (by kernel_rfl)
theorem entry_map_new : entryFor table "map.__new__" = some Builtin.«map.__new__» := entryFor_of_tree (by kernel_rfl)
theorem args_map_next (a : Value) : argsOk "map.__next__" ⟨[a], []⟩ := by unfold argsOk; rw [PySem.W.Fast.signatureY_eq, PySem.W.Fast.te16078263539434579649]; kernel_rfl
theorem args_map_iter (a : Value) : argsOk "map.__iter__" ⟨[a], []⟩ := by unfold argsOk; rw [PySem.W.Fast.signatureY_eq, PySem.W.Fast.te16078263539434579649]; kernel_rfl
theorem mro_map : mroOf (.type "map") = pure [.type "map", .type "object"] := by rw [mroOf_type]; kernel_rfl
theorem lookup_map_new : typeLookup (.type "map") "__new__" = pure (some (.builtin "map.__new__")) := by rw [typeLookup_type, builtinLookup_eq_fast]; kernel_rfl
theorem sub_map : isSubtype (.type "map") (.type "map") = pure true := by rw [isSubtype_type]; kernel_rfl
theorem called_map : TypeCalled "map" "map.__new__" "object.__init__" :=
  ⟨by decide +kernel, by decide +kernel, ⟨_, _, mro_map⟩, madeBy_type mro_map lookup_map_new (by decide +kernel), by decide +kernel, by rw [isSubtype_type]; kernel_rfl, slot_map_init⟩
theorem typeCall_map_2 (a b : Value) : checkTypeCall "map" ⟨[a, b], []⟩ = pure () := by rw [PySem.W.Fast.te11612656972197000677]; kernel_rfl
theorem newCall_map_2 (a b : Value) : checkBuiltinCall "map.__new__" ⟨[.type "map", a, b], []⟩ = pure () := by rw [PySem.W.Fast.te10254737850608025244]; kernel_rfl
theorem args_init_3 (a b c : Value) : argsOk "object.__init__" ⟨[a, b, c], []⟩ := by unfold argsOk; rw [PySem.W.Fast.signatureY_eq, PySem.W.Fast.te16078263539434579649]; kernel_rfl
theorem map_nolen : typeLookup (.type "map") "__len__" = pure none := by rw [typeLookup_type, builtinLookup_eq_fast]; kernel_rfl
theorem map_nohint : typeLookup (.type "map") "__length_hint__" = pure none := by rw [typeLookup_type, builtinLookup_eq_fast]; kernel_rfl
noncomputable def mapObj (T : Addr) (f : Value) : Obj := { cls := .type "map", dict := none, data := .fields #[.ref T, f], slots := #[] }
noncomputable def tup1 (L : Addr) : Obj := { cls := .type "tuple", dict := none, data := .seq #[.ref L], slots := #[] }
noncomputable def lit (l : Addr) : Obj := { cls := .type "list_iterator", data := .fields #[.ref l, .int 0 0] }
theorem meets_map_new (f : Value) (l : Addr) (items : Array Value) (n : Nat) :
    Meets (Builtin.«map.__new__» ⟨[.type "map", f, .ref l], []⟩) (fun _ R s => s.heap.get? l = some { cls := .type "list", dict := none, data := .seq items n, slots := #[] } ∧
      R (.ok (.ret (.ref (s.heap.objs.size + 2)))) { s with heap := ((s.heap.push (lit l)).push (tup1 s.heap.objs.size)).push (mapObj (s.heap.objs.size + 1) f) }) :=
  .of_wp fun prog w A R s h => by
    obtain ⟨hp, g, d, tk, os⟩ := s; obtain ⟨hl, h⟩ := h
    have hsub := sub_map
    have hL : Heap.IsList (Shared.heap ⟨hp, g, d, tk, os⟩) l items := ⟨_, hl, rfl, n, rfl⟩
    wp_walk using wpAny_loadPart' hl, wpAny_pyIter_list hL
    simp only [Heap.size_push]
    exact ⟨_, rfl, h⟩
section
variable {prog : Program} {w : World} {A : Around} {E : Value → Shared → Prop} {s : Shared}
theorem call_map {l : Addr} {items : Array Value} {n : Nat} {f : Value} {Q : Value → Shared → Prop} (hl : s.heap.get? l = some { cls := .type "list", dict := none, data := .seq items n, slots := #[] })
    (h : Q (.ref (s.heap.objs.size + 2)) { s with heap := ((s.heap.push (lit l)).push (tup1 s.heap.objs.size)).push (mapObj (s.heap.objs.size + 1) f) }) : wpAny (model prog w) A (call (.type "map") [f, .ref l]) Q E s := by
  refine callType_new called_map (by decide) (typeCall_map_2 _ _) (newCall_map_2 _ _) (fun obj => args_init_3 obj _ _) entry_map_new (meets_map_new f l items n) ⟨hl, ?_⟩
  refine ⟨⟨mapObj (s.heap.objs.size + 1) f, ?_, rfl⟩, h⟩
  have := Heap.get?_push_size ((s.heap.push (lit l)).push (tup1 s.heap.objs.size)) (o := mapObj (s.heap.objs.size + 1) f) rfl
  rw [Heap.size_push, Heap.size_push] at this
  exact this
theorem map_self {M : Addr} {o : Obj} (ho : s.heap.get? M = some o) (hc : o.cls = .type "map") {Q : Value → Shared → Prop} (h : Q (.ref M) s) : wpAny (model prog w) A (pyIter (.ref M)) Q E s := by
  have hT : s.TypeIs (.ref M) "map" := ⟨_, ho, hc⟩
  refine wpAny_pyIter_slot hT slot_map_iter (wpAny_call_entry slot_map_iter hT entry_map_iter ?_ (args_map_iter _))
  refine (?_ : wpAny _ _ (ret (.ref M)) _ _ s)
  exact wpAny_pure ⟨_, rfl, "map", _, hT, slot_map_next.lookup, h⟩
theorem map_next {M T L d : Addr} {i : Nat} {items : Array Value} {f v : Value} {Q : Option Value → Shared → Prop} (hM : s.heap.get? M = some (mapObj T f)) (hT : s.heap.get? T = some (tup1 L)) (hL : s.heap.IsListIter L d i) (hd : s.heap.IsList d items) (hv : items[i]? = some v) (hne : M ≠ L)
    (h : ∀ h', h'.IsListIter L d (i + 1) → Heap.SameBut L s.heap h' → wpAny (model prog w) A.in1 (call f [v]) (fun r s' => Q (some r) s') (fun _ _ => False) { s with heap := h' }) : wpAny (model prog w) A (pyNext (.ref M)) Q E s := by
  have hTy : s.TypeIs (.ref M) "map" := ⟨_, hM, rfl⟩
  unfold pyNext
  refine wpAny_bind (wpAny_attempt (wpAny_callSpecial?_slot (name := Str.ofString "__next__") hTy slot_map_next (wpAny_call_entry slot_map_next hTy entry_map_next ?_ (args_map_next _))))
  refine (?_ : wpAny _ _ (field (.ref M) 0 >>= _) _ _ _)
  refine wpAny_bind (wpAny_field hM rfl (x := .ref T) rfl ?_)
  refine wpAny_bind (wpAny_seqItems hT rfl ?_)
  dsimp only [tup1]
  refine wpAny_bind ?_
  rw [← Array.forIn_toList]
  simp only [List.forIn_cons, List.forIn_nil]
  refine wpAny_bind (wpAny_bind (wpAny_holding (wpAny_nextOf_list_item hL hd hv fun h1 hL1 hs1 => ?_)))
  refine wpAny_pure (wpAny_pure ?_)
  have hM1 : h1.get? M = some (mapObj T f) := hs1.extBut M _ hne hM
  refine wpAny_bind (wpAny_field hM1 rfl (x := f) rfl ?_)
  refine wpAny_bind (wpAny_holding (wpAny_mono (h h1 hL1 hs1) (fun r s' hq => ?_) fun _ _ e => e.elim))
  refine wpAny_bind (wpAny_letGo ?_)
  exact wpAny_pure ⟨_, rfl, wpAny_pure hq⟩
theorem map_stop {M T L d : Addr} {i : Nat} {items : Array Value} {f : Value} {Q : Option Value → Shared → Prop} (hh : A.handled = none) (hM : s.heap.get? M = some (mapObj T f)) (hT : s.heap.get? T = some (tup1 L)) (hL : s.heap.IsListIter L d i) (hd : s.heap.IsList d items) (hv : items[i]? = none)
    (h : ∀ h', Heap.ExtBut L s.heap h' → Q none { s with heap := h' }) : wpAny (model prog w) A (pyNext (.ref M)) Q E s := by
  have hTy : s.TypeIs (.ref M) "map" := ⟨_, hM, rfl⟩
  unfold pyNext
  refine wpAny_bind (wpAny_attempt (wpAny_callSpecial?_slot (name := Str.ofString "__next__") hTy slot_map_next (wpAny_call_entry slot_map_next hTy entry_map_next ?_ (args_map_next _))))
  refine (?_ : wpAny _ _ (field (.ref M) 0 >>= _) _ _ _)
  refine wpAny_bind (wpAny_field hM rfl (x := .ref T) rfl ?_)
  refine wpAny_bind (wpAny_seqItems hT rfl ?_)
  dsimp only [tup1]
  refine wpAny_bind ?_
  rw [← Array.forIn_toList]
  simp only [List.forIn_cons, List.forIn_nil]
  refine wpAny_bind (wpAny_bind (wpAny_holding (wpAny_nextOf_list_end hh hL hd hv fun h' x he' hx' => ?_)))
  obtain ⟨o, ho, hc⟩ := hx'
  refine wpAny_bind (wpAny_isInstance (T := "StopIteration") (b := true) ⟨o, ho, hc⟩ isSubtype_stop ?_)
  exact wpAny_pure (h _ he')
theorem extend_loop {M D : Addr} {n : Nat} {R : Result → Shared → Prop} (J : Nat → Array Value → Shared → Prop) (hsz : n ≤ sizeLine)
    (hlen : ∀ i acc s, J i acc s → acc.size ≤ i ∧ (∃ c, s.heap.get? D = some { cls := .type "list", dict := none, data := .seq acc c, slots := #[] }))
    (hnext : ∀ i acc s, i < n → J i acc s → wpAny (model prog w) A.in1 (pyNext (.ref M)) (fun r s' => ∃ v, r = some v ∧ (∃ c, s'.heap.get? D = some { cls := .type "list", dict := none, data := .seq acc c, slots := #[] }) ∧
      ∀ h' c, h'.get? D = some { cls := .type "list", dict := none, data := .seq (acc.push v) c, slots := #[] } → Heap.SameBut D s'.heap h' → J (i + 1) (acc.push v) { s' with heap := h' }) (fun _ _ => False) s)
    (hstop : ∀ acc s, J n acc s → wpAny (model prog w) A.in1 (pyNext (.ref M)) (fun r s' => r = none ∧ R (.ok (.ret (.ref D))) s') (fun _ _ => False) s) :
    ∀ (k i : Nat) (acc : Array Value) (s : Shared), n - i = k → i ≤ n → J i acc s → codeAny (model prog w) A (.builtin "list.extend.loop" ⟨[.ref D, .ref M, .ref D], []⟩) R s := by
  intro k
  induction k with
  | zero =>
    intro i acc s hk hi hJ
    have hin : i = n := Nat.le_antisymm hi (Nat.le_of_sub_eq_zero hk)
    subst hin
    refine codeAny_builtin F.entry_extend_loop ?_
    rw [Around.under_plainId F.plain_extend_loop _]
    refine (?_ : wpAny _ A.in1 (pyNext (.ref M) >>= _) _ _ s)
    refine wpAny_bind (wpAny_mono (hstop acc s hJ) (fun r s' hq => ?_) fun _ _ e => e.elim)
    obtain ⟨rfl, hq⟩ := hq
    exact wpAny_pure hq
  | succ k ih =>
    intro i acc s hk hi hJ
    refine codeAny_builtin F.entry_extend_loop ?_
    rw [Around.under_plainId F.plain_extend_loop _]
    refine (?_ : wpAny _ A.in1 (pyNext (.ref M) >>= _) _ _ s)
    refine wpAny_bind (wpAny_mono (hnext i acc s (Nat.lt_of_sub_eq_succ hk) hJ) (fun r s' hq => ?_) fun _ _ e => e.elim)
    obtain ⟨v, rfl, ⟨c, hD⟩, hq⟩ := hq
    have hl := (hlen i acc s hJ).1
    refine (?_ : wpAny _ A.in1 (updateSeq D (·.push v) >>= _) _ _ _)
    refine wpAny_bind ?_
    refine wpAny_updateSeq hD rfl (wpAny_pure ⟨plainId_quiet F.plain_extend_loop _, ih (i + 1) (acc.push v) _ (congrArg Nat.pred hk) (Nat.lt_of_sub_eq_succ hk) (hq _ _ (Heap.get?_update_self _ hD rfl) (Heap.SameBut.update ..))⟩) (by lia) (by rw [Array.size_push]; lia)
theorem collect_map {M : Addr} {n : Nat} {o : Obj} {Q : List Value → Shared → Prop} (hM : s.heap.get? M = some o) (hc : o.cls = .type "map") (J : Nat → Array Value → Shared → Prop) (hsz : n ≤ sizeLine)
    (hJ0 : ∀ h' c, h'.get? s.heap.objs.size = some { cls := .type "list", dict := none, data := .seq #[] c, slots := #[] } → s.heap.get? s.heap.objs.size = none → (∀ b o, s.heap.get? b = some o → h'.get? b = some o) → J 0 #[] { s with heap := h' })
    (hlen : ∀ i acc s', J i acc s' → acc.size ≤ i ∧ (∃ c, s'.heap.get? s.heap.objs.size = some { cls := .type "list", dict := none, data := .seq acc c, slots := #[] }))
    (hnext : ∀ i acc s', i < n → J i acc s' → wpAny (model prog w) A.in1 (pyNext (.ref M)) (fun r s'' => ∃ v, r = some v ∧ (∃ c, s''.heap.get? s.heap.objs.size = some { cls := .type "list", dict := none, data := .seq acc c, slots := #[] }) ∧
      ∀ h' c, h'.get? s.heap.objs.size = some { cls := .type "list", dict := none, data := .seq (acc.push v) c, slots := #[] } → Heap.SameBut s.heap.objs.size s''.heap h' → J (i + 1) (acc.push v) { s'' with heap := h' }) (fun _ _ => False) s')
    (hstop : ∀ acc s', J n acc s' → wpAny (model prog w) A.in1 (pyNext (.ref M)) (fun r s'' => r = none ∧ (∃ c, s''.heap.get? s.heap.objs.size = some { cls := .type "list", dict := none, data := .seq acc c, slots := #[] }) ∧ Q acc.toList s'') (fun _ _ => False) s') :
    wpAny (model prog w) A (collect (.ref M)) Q E s := by
  have hMs : s.heap.objs.size ≠ M := Nat.ne_of_gt (Heap.lt_size hM)
  have hfresh : s.heap.get? s.heap.objs.size = none := by
    cases e : s.heap.get? s.heap.objs.size with
    | none => rfl
    | some o' => exact absurd (Heap.lt_size e) (Nat.lt_irrefl _)
  unfold collect
  refine wpAny_bind (wpAny_runValue (codeAny_builtin F.entry_proto_collect ?_))
  rw [Around.under_plainId F.plain_proto_collect _]
  refine (?_ : wpAny _ A.in1 (newList [] >>= fun l => again (.builtin "list.__iadd__" ⟨[l, .ref M], []⟩)) _ _ s)
  refine wpAny_bind (wpAny_newObj_type ?_)
  refine wpAny_pure ⟨plainId_quiet F.plain_list_iadd _, codeAny_builtin F.entry_list_iadd ?_⟩
  rw [Around.under_plainId F.plain_list_iadd _]
  refine (?_ : wpAny _ A.in1 (Builtin.List.listExtendWith (.ref s.heap.objs.size) (.ref M) (.ref s.heap.objs.size)) _ _ _)
  have hM1 : (s.heap.push { cls := .type "list", data := .seq ([] : List Value).toArray }).get? M = some o := Heap.get?_push_of_some _ hM
  unfold Builtin.List.listExtendWith
  refine wpAny_bind (wpAny_typeOf (T := "map") ⟨o, hM1, hc⟩ ?_)
  have h1 : Builtin.List.listSameRef (.ref s.heap.objs.size) (.ref M) = false := by simp [Builtin.List.listSameRef, hMs]
  have h2 : (Value.type "map" == Value.type "list") = false := by decide
  have h3 : (Value.type "map" == Value.type "tuple") = false := by decide
  simp only [h1, h2, h3, Bool.or_false, Bool.false_eq_true, if_false]
  refine wpAny_bind (map_self hM1 hc ?_)
  refine wpAny_bind (wpAny_holding ?_)
  unfold Builtin.List.listLengthHint
  refine wpAny_bind (wpAny_specialOf (T := "map") ⟨o, hM1, hc⟩ map_nolen ?_)
  refine (?_ : wpAny _ A.in1 (specialOf (Value.ref M) (Str.ofString "__length_hint__") >>= _) _ _ _)
  refine wpAny_bind (wpAny_specialOf (T := "map") ⟨o, hM1, hc⟩ map_nohint ?_)
  refine wpAny_pure ?_
  show wpAny _ A.in1 (rule "list.extend.makes-room" >>= fun _ => Builtin.List.listTouch (.ref s.heap.objs.size) >>= fun _ =>
    again (.builtin "list.extend.loop" ⟨[.ref s.heap.objs.size, .ref M, .ref s.heap.objs.size], []⟩)) _ _ _
  refine wpAny_bind (wpAny_rule ?_)
  have hS₁ : (s.heap.push { cls := .type "list", data := .seq ([] : List Value).toArray }).get? s.heap.objs.size = some { cls := .type "list", data := .seq ([] : List Value).toArray } := Heap.get?_push_size _ rfl
  refine wpAny_bind ?_
  refine (?_ : wpAny _ A.in1 (updateSeq s.heap.objs.size (·.push .none) >>= fun _ => updateSeq s.heap.objs.size (·.pop)) _ _ _)
  refine wpAny_bind (wpAny_updateSeq hS₁ rfl ?_)
  have hS₂ := Heap.get?_update_self (Obj.mapSeq (·.push Value.none)) hS₁ rfl
  refine wpAny_updateSeq hS₂ rfl ?_
  have hS₃ := Heap.get?_update_self (Obj.mapSeq (·.pop)) hS₂ rfl
  refine wpAny_pure ⟨plainId_quiet F.plain_extend_loop _, extend_loop J hsz hlen hnext ?_ n 0 #[] _ rfl (Nat.zero_le _) (hJ0 _ _ hS₃ hfresh fun b o e => ?_)⟩
  · intro acc s' hJ
    refine wpAny_mono (hstop acc s' hJ) (fun r s'' hq => ?_) fun _ _ e => e
    obtain ⟨rfl, ⟨c, hD⟩, hq⟩ := hq
    refine ⟨rfl, ?_⟩
    refine (?_ : wpAny _ A (load s.heap.objs.size >>= _) _ _ s'')
    exact wpAny_bind (wpAny_load hD (wpAny_pure hq))
  · have hb : b ≠ s.heap.objs.size := Nat.ne_of_lt (Heap.lt_size e)
    exact (Heap.get?_update_other _ _ (Ne.symm hb)).trans ((Heap.get?_update_other _ _ (Ne.symm hb)).trans (Heap.get?_push_of_some _ e))
theorem call_tuple_map {M : Addr} {n : Nat} {o : Obj} {Q : Value → Shared → Prop} (hM : s.heap.get? M = some o) (hc : o.cls = .type "map") (J : Nat → Array Value → Shared → Prop) (hsz : n ≤ sizeLine)
    (hJ0 : ∀ h' c tk, s.toks ≤ tk → h'.get? s.heap.objs.size = some { cls := .type "list", dict := none, data := .seq #[] c, slots := #[] } → s.heap.get? s.heap.objs.size = none → (∀ b o, s.heap.get? b = some o → h'.get? b = some o) → J 0 #[] { s with heap := h', toks := tk })
    (hlen : ∀ i acc s', J i acc s' → acc.size ≤ i ∧ (∃ c, s'.heap.get? s.heap.objs.size = some { cls := .type "list", dict := none, data := .seq acc c, slots := #[] }))
    (hnext : ∀ i acc s', i < n → J i acc s' → wpAny (model prog w) A.in1.in1.in1 (pyNext (.ref M)) (fun r s'' => ∃ v, r = some v ∧ (∃ c, s''.heap.get? s.heap.objs.size = some { cls := .type "list", dict := none, data := .seq acc c, slots := #[] }) ∧
      ∀ h' c, h'.get? s.heap.objs.size = some { cls := .type "list", dict := none, data := .seq (acc.push v) c, slots := #[] } → Heap.SameBut s.heap.objs.size s''.heap h' → J (i + 1) (acc.push v) { s'' with heap := h' }) (fun _ _ => False) s')
    (hstop : ∀ acc s', J n acc s' → wpAny (model prog w) A.in1.in1.in1 (pyNext (.ref M)) (fun r s'' => r = none ∧ (∃ c, s''.heap.get? s.heap.objs.size = some { cls := .type "list", dict := none, data := .seq acc c, slots := #[] }) ∧ acc.size ≤ sizeLine ∧ Q (.ref s''.heap.objs.size) { s'' with heap := s''.heap.push { cls := .type "tuple", data := .seq acc } }) (fun _ _ => False) s') :
    wpAny (model prog w) A (call (.type "tuple") [.ref M]) Q E s := by
  have hTI : s.TypeIs (.ref M) "map" := ⟨o, hM, hc⟩
  refine callType_codes (Q₁ := fun obj s₁ => s₁.TypeIs obj "tuple" ∧ Q obj s₁) F.called_tuple (F.typeCall_tuple_1 _) F.entry_object_init ?_ fun obj s₁ h₁ => ?_
  · refine codeAny_of_tree ?_
    show wpAny _ A.in1.in1 (do checkBuiltinCall "tuple.__new__" ⟨[.type "tuple", .ref M], []⟩; again (.builtin "tuple.__new__" ⟨[.type "tuple", .ref M], []⟩)) _ _ s
    refine wpAny_bind (wpAny_of_eq (F.newCall_tuple_1 _) (wpAny_pure ⟨plainId_quiet F.plain_tuple_new _, codeAny_builtin F.entry_tuple_new ?_⟩))
    rw [Around.under_plainId F.plain_tuple_new _]
    have hsub := sub_tuple_self
    have hinit := init_tuple_lookup
    have hmh := madeHere_tuple
    wp_walk using wpAny_typeOf hTI, collect_map (A := A.in1.in1) hM hc J hsz (fun h' c h1 h2 h3 => hJ0 h' c _ (Nat.le_refl _) h1 h2 h3) hlen hnext
    intro acc s' hJ
    refine wpAny_mono (hstop acc s' hJ) (fun r s'' hq => ?_) fun _ _ e => e
    obtain ⟨rfl, hD, hz, hq⟩ := hq
    refine ⟨rfl, hD, ?_⟩
    refine (?_ : wpAny _ _ (Builtin.Tuple.tupleExact acc.toList.toArray >>= fun v => ret v) _ _ _)
    unfold Builtin.Tuple.tupleExact
    have e : acc.toList.toArray = acc := by simp
    rw [e]
    refine wpAny_bind (wpAny_newObj_type ?_ hz)
    refine wpAny_pure ?_
    exact ⟨⟨_, Heap.get?_push_size _ rfl, rfl⟩, hq⟩
  · exact ⟨h₁.1, F.args_object_init_2 obj _, object_init_meets F.called_tuple.init.lookup F.called_tuple.made (by decide) prog w A.in1 _ s₁ ⟨h₁.1, rfl, h₁.2⟩⟩
end
end Mine
end
section
set_option genInjectivity false
set_option genSizeOf false
set_option genCtorIdx false
set_option bootstrap.genMatcherCode false
open PySem PyProof.Rows PySem.Calls PySem.Spec
set_option maxRecDepth 100000
set_option maxHeartbeats 8000000
set_option tactic.hygienic false
namespace Mine
theorem sub_ss : isSubtype (.type "str") (.type "str") = pure true := by rw [isSubtype_type]; kernel_rfl
theorem sub_tt : isSubtype (.type "tuple") (.type "tuple") = pure true := by rw [isSubtype_type]; kernel_rfl
theorem ty_str : typeOf (.type "str") = pure (.type "type") := by rfl
theorem isType_str : isType (.type "str") = pure true := by rfl
theorem args_isn (a b c : Value) : argsOk "issubclass.nested" ⟨[a, b, c], []⟩ := by unfold argsOk; rw [PySem.W.Fast.signatureY_eq, PySem.W.Fast.te16078263539434579649]; kernel_rfl
theorem kind_isn : builtinKind "issubclass.nested" = none := by decide +kernel
theorem plain_isn : plainId "issubclass.nested" = true := by decide +kernel
section
variable {prog : Program} {w : World} {A : Around} {E : Value → Shared → Prop} {s : Shared}
theorem issub_in {k : Value} {Q : Fin → Shared → Prop} {i t} (hk : k = .int i t) (hq : Q (.done (.ret (.bool true))) s) :
    wpAny (model prog w) A (Builtin.«issubclass.nested» ⟨[.type "str", .type "str", k], []⟩) Q E s := by
  subst hk
  have h1 := sub_ss
  have h2 := ty_str
  have h3 := isType_str
  repeat (any_goals (first | assumption | (rw [h1]) | (rw [h3]) | wp_step))
theorem issub_call {k : Value} {Q : Value → Shared → Prop} {i t} (hk : k = .int i t) (hq : Q (.bool true) s) :
    wpAny (model prog w) A (call (.builtin "issubclass.nested") [.type "str", .type "str", k]) Q E s :=
  call_function_any kind_isn plain_isn PySem.F.entry_issubclass_nested (args_isn _ _ _) (issub_in hk hq)
theorem issub_tup {e : Addr} {o : Obj} {n : Nat} {Q : Value → Shared → Prop} (ho : s.heap.get? e = some o) (hc : o.cls = .type "tuple") (hd : o.data = .seq #[.type "str", .type "bytes"] n) (hq : Q (.bool true) s) :
    wpAny (model prog w) A (call (.builtin "issubclass") [.type "str", .ref e]) Q E s := by
  have hT : s.TypeIs (.ref e) "tuple" := ⟨o, ho, hc⟩
  refine call_function_any PySem.F.kind_issubclass PySem.F.plain_issubclass PySem.F.entry_issubclass (PySem.F.args_issubclass_2 _ _) (issubclass_outer (R := fun r s' => match r with | .ok (.ret v) => Q v s' | .ok _ => False | .error e => E e s') ?_)
  unfold Builtin.«issubclass.nested» rawInt
  dsimp only
  refine wpAny_bind (wpAny_typeOf hT ?_)
  rw [if_neg (by decide)]
  unfold Builtin.Builtins.unionMembers
  refine wpAny_bind (wpAny_bind (m := typeOf (.ref e)) (wpAny_typeOf hT ?_))
  rw [if_neg (by decide)]
  refine wpAny_pure ?_
  refine wpAny_bind (wpAny_isInstance hT sub_tt ?_)
  rw [if_pos rfl, if_neg (by decide)]
  refine wpAny_bind (wpAny_seqItems ho hd ?_)
  simp only [Option.getD_some]
  refine wpAny_bind ?_
  rw [← Array.forIn_toList, List.forIn_cons]
  refine wpAny_bind (wpAny_bind (issub_call rfl ?_))
  refine wpAny_bind (wpAny_truthy_bool ?_)
  rw [if_pos rfl]
  refine wpAny_bind (wpAny_pure ?_)
  refine wpAny_pure ?_
  refine wpAny_pure ?_
  exact wpAny_pure hq
end
end Mine
end
section
set_option genInjectivity false
set_option genSizeOf false
set_option genCtorIdx false
set_option bootstrap.genMatcherCode false
open PySem PySem.W PyProof.Rows PySem.Calls PySem.Spec
set_option maxRecDepth 100000
set_option maxHeartbeats 8000000
set_option tactic.hygienic false
namespace Mine
noncomputable abbrev PR : Program := PySem.Challenge.rw_kl0187_01.row.prog
noncomputable abbrev KK (w : World) : Frag := MineH.frag w.params

noncomputable def slotGet : List Str → List (Option Value) → Str → Option Value
  | n :: ns, v :: vs, x => if x = n then v else slotGet ns vs x
  | _, _, _ => none
inductive SlotAt (x : Str) (v : Value) : List Str → List (Option Value) → Prop
  | head {ns vs} : SlotAt x v (x :: ns) (some v :: vs)
  | tail {n w ns vs} : SlotAt x v ns vs → SlotAt x v (n :: ns) (w :: vs)
inductive SlotSet (x : Str) (v : Value) : List Str → List (Option Value) → List (Option Value) → Prop
  | head {ns w vs} : SlotSet x v (x :: ns) (w :: vs) (some v :: vs)
  | tail {n w ns vs vs'} : SlotSet x v ns vs vs' → SlotSet x v (n :: ns) (w :: vs) (w :: vs')
theorem SlotAt.mem {x v ns vs} (h : SlotAt x v ns vs) : x ∈ ns := by
  induction h with
  | head => exact .head _
  | tail _ ih => exact .tail _ ih
theorem SlotAt.get {x v ns vs} (h : SlotAt x v ns vs) (nd : ns.Nodup) : slotGet ns vs x = some v := by
  induction h with
  | head => simp [slotGet]
  | @tail n w ns vs h ih =>
    have := List.nodup_cons.mp nd
    have hne : ¬ x = n := fun e => this.1 (by rw [← e]; exact h.mem)
    simp only [slotGet, if_neg hne]; exact ih this.2
theorem SlotSet.mem {x v ns vs vs'} (h : SlotSet x v ns vs vs') : x ∈ ns := by
  induction h with
  | head => exact .head _
  | tail _ ih => exact .tail _ ih
theorem SlotSet.get {x v ns vs vs'} (h : SlotSet x v ns vs vs') (nd : ns.Nodup) : (fun y => if y = x then some v else slotGet ns vs y) = slotGet ns vs' := by
  funext y
  induction h with
  | head => simp only [slotGet]; split <;> rfl
  | @tail n w ns vs vs' h ih =>
    have q := List.nodup_cons.mp nd
    have hne : ¬ x = n := fun e => q.1 (by rw [← e]; exact h.mem)
    simp only [slotGet]
    by_cases hy : y = x
    · subst hy; rw [if_pos rfl, if_neg hne]; have := ih q.2; rw [if_pos rfl] at this; exact this
    · rw [if_neg hy]; have := ih q.2; rw [if_neg hy] at this; rw [this]
theorem slotGet_nones (rest : List Str) (x : Str) : slotGet rest (rest.map fun _ => none) x = none := by
  induction rest with
  | nil => rfl
  | cons n ns ih =>
    show (if x = n then none else slotGet ns (ns.map fun _ => none) x) = none
    rw [ih]; split <;> rfl
theorem slots_of_binds (rest : List Str) : ∀ (ps : List Str) (vals : List Value), ps.Nodup → ps.length = vals.length →
    (fun x => (ps.zip vals).reverse.lookup x) = slotGet (ps ++ rest) (vals.map some ++ rest.map fun _ => none)
  | [], [], _, _ => by funext x; exact (slotGet_nones rest x).symm
  | p :: ps, v :: vals, nd, hl => by
    funext x
    have q := List.nodup_cons.mp nd
    have ih := congrFun (slots_of_binds rest ps vals q.2 (by simpa using hl)) x
    simp only [List.zip_cons_cons, List.reverse_cons, List.lookup_append, List.map_cons, List.cons_append, slotGet]
    by_cases hx : x = p
    · subst hx
      rw [if_pos rfl]
      have hn : (ps.zip vals).reverse.lookup x = none := by
        rw [List.lookup_eq_none_iff]
        intro y hy
        have : y.1 ∈ ps := by
          have h1 := List.mem_reverse.mp hy
          obtain ⟨a, b⟩ := y
          exact (List.of_mem_zip h1).1
        have hne : x ≠ y.1 := fun e => q.1 (by rw [e]; exact this)
        first | exact beq_eq_false_iff_ne.mpr hne | exact hne | simpa using hne
      rw [hn]; simp
    · rw [if_neg hx, ← ih]
      have : [(p, v)].lookup x = none := by
        have hb : (x == p) = false := beq_eq_false_iff_ne.mpr hx
        simp only [List.lookup, hb]
      rw [this, Option.or_none]
  | [], _ :: _, _, hl => by simp at hl
  | _ :: _, [], _, hl => by simp at hl

noncomputable abbrev Ob := Obj → Prop
noncomputable abbrev Led := List (Addr × Ob)
inductive LedAt (a : Addr) (o : Ob) : Led → Prop
  | head {r} : LedAt a o ((a, o) :: r)
  | tail {p r} : LedAt a o r → LedAt a o (p :: r)
  | left {l r} : LedAt a o l → LedAt a o (l ++ r)
  | right {l r} : LedAt a o r → LedAt a o (l ++ r)
theorem LedAt.mem {a o l} (h : LedAt a o l) : (a, o) ∈ l := by
  induction h with
  | head => exact .head _
  | tail _ ih => exact .tail _ ih
  | left _ ih => exact List.mem_append_left _ ih
  | right _ ih => exact List.mem_append_right _ ih
theorem LedAt.of_mem {a o l} (h : (a, o) ∈ l) : LedAt a o l := by
  induction l with
  | nil => cases h
  | cons p r ih =>
    rcases List.mem_cons.mp h with e | h
    · rw [← e]; exact .head
    · exact .tail (ih h)
inductive LedSet (a : Addr) (o o' : Ob) : Led → Led → Prop
  | head {r} : LedSet a o o' ((a, o) :: r) ((a, o') :: r)
  | tail {p r r'} : LedSet a o o' r r' → LedSet a o o' (p :: r) (p :: r')
  | left {l l' r} : LedSet a o o' l l' → LedSet a o o' (l ++ r) (l' ++ r)
  | right {l r r'} : LedSet a o o' r r' → LedSet a o o' (l ++ r) (l ++ r')
theorem LedSet.at {a o o' l l'} (h : LedSet a o o' l l') : LedAt a o l := by
  induction h with
  | head => exact .head
  | tail _ ih => exact .tail ih
  | left _ ih => exact .left ih
  | right _ ih => exact .right ih
theorem LedSet.keys {a o o' l l'} (h : LedSet a o o' l l') : l'.map (·.1) = l.map (·.1) := by
  induction h with
  | head => rfl
  | tail _ ih => simp [ih]
  | left _ ih => simp [ih]
  | right _ ih => simp [ih]
theorem LedSet.ent {a o o' l l'} (h : LedSet a o o' l l') (nd : (l.map (·.1)).Nodup) : ∀ p ∈ l', p = (a, o') ∨ (p ∈ l ∧ p.1 ≠ a) := by
  induction h with
  | @head r =>
    intro p hp
    have q := List.nodup_cons.mp nd
    rcases List.mem_cons.mp hp with e | hp
    · exact .inl e
    · exact .inr ⟨.tail _ hp, fun e => q.1 (List.mem_map.mpr ⟨p, hp, e⟩)⟩
  | @tail p₀ r r' h ih =>
    intro p hp
    have q := List.nodup_cons.mp nd
    rcases List.mem_cons.mp hp with e | hp
    · subst e
      exact .inr ⟨.head _, fun e => q.1 (List.mem_map.mpr ⟨_, h.at.mem, e.symm⟩)⟩
    · rcases ih q.2 p hp with e | ⟨h1, h2⟩
      · exact .inl e
      · exact .inr ⟨.tail _ h1, h2⟩
  | @left l l' r h ih =>
    intro p hp
    rw [List.map_append, List.nodup_append] at nd
    rcases List.mem_append.mp hp with hp | hp
    · rcases ih nd.1 p hp with e | ⟨h1, h2⟩
      · exact .inl e
      · exact .inr ⟨List.mem_append_left _ h1, h2⟩
    · exact .inr ⟨List.mem_append_right _ hp, fun e => nd.2.2 a (List.mem_map.mpr ⟨_, h.at.mem, rfl⟩) p.1 (List.mem_map.mpr ⟨_, hp, rfl⟩) e.symm⟩
  | @right l r r' h ih =>
    intro p hp
    rw [List.map_append, List.nodup_append] at nd
    rcases List.mem_append.mp hp with hp | hp
    · exact .inr ⟨List.mem_append_left _ hp, fun e => nd.2.2 p.1 (List.mem_map.mpr ⟨_, hp, rfl⟩) a (List.mem_map.mpr ⟨_, h.at.mem, rfl⟩) e⟩
    · rcases ih nd.2.1 p hp with e | ⟨h1, h2⟩
      · exact .inl e
      · exact .inr ⟨List.mem_append_right _ h1, h2⟩

noncomputable def lst (vs : List Value) (o : Obj) : Prop := ∃ n, o = { cls := .type "list", dict := none, data := .seq vs.toArray n, slots := #[] }
noncomputable def tup (vs : List Value) (o : Obj) : Prop := ∃ n, o = { cls := .type "tuple", dict := none, data := .seq vs.toArray n, slots := #[] }

structure Base (w : World) (h : Heap) : Prop where
  k : (KK w).In h
  nl : h.NoLimit
  b : ∃ mb, h.Ns builtinsNs mb ∧ ∀ x : Str, x ≠ "__name__" → mb x = bootBuiltins x
  g : ∃ mg, h.Ns mainGlobals mg
theorem Base.keeps {w : World} {h h' : Heap} (B : Base w h) (hk : ∀ b o, h.get? b = some o → h'.get? b = some o) : Base w h' :=
  ⟨B.k.keeps hk, B.nl.keeps hk, let ⟨mb, x, y⟩ := B.b; ⟨mb, x.keeps hk, y⟩, let ⟨mg, x⟩ := B.g; ⟨mg, x.keeps hk⟩⟩

structure Cx where
  w : World
  h₀ : Heap
  base : Base w h₀
  env : Env
  L : Addr
  ns : List Str
  dp : Nat
  un : Nat
  g : Array GenState
  d : Drawn
  os : OsState
structure Sg where
  vs : List (Option Value)
  news : Led
structure St (c : Cx) (σ : Sg) (h : Heap) : Prop where
  fr : Fr c.h₀ c.L h (slotGet c.ns σ.vs)
  nw : ∀ p ∈ σ.news, (∃ o, h.get? p.1 = some o ∧ p.2 o) ∧ p.1 ≠ c.L ∧ c.h₀.get? p.1 = none
  nd : (σ.news.map (·.1)).Nodup
structure Room (A : Around) (dp un : Nat) : Prop where
  hd : A.handled = none
  dep : A.depth + dp < recursionLimit
  un : A.units + un < cLine

inductive PostK0 (c : Cx) (K : Sg → Prop) (s' : Shared) : Prop
  | mk (h' : Heap) (tk' : Nat) (σ' : Sg) (e : s' = ⟨h', c.g, c.d, tk', c.os⟩) (S : St c σ' h') (q : K σ')
noncomputable abbrev Post0 {α : Type} (c : Cx) (Q : α → Sg → Prop) (a : α) (s' : Shared) : Prop := PostK0 c (Q a) s'
inductive PostK (c : Cx) (K : Sg → Prop) (s' : Shared) : Prop
  | mk (h' : Heap) (tk' : Nat) (σ' : Sg) (e : s' = ⟨h', c.g, c.d, tk', c.os⟩) (S : St c σ' h') (p : 0 < tk') (q : K σ')
noncomputable abbrev Post {α : Type} (c : Cx) (Q : α → Sg → Prop) (a : α) (s' : Shared) : Prop := PostK c (Q a) s'
theorem Post0.thru {α : Type} {c : Cx} {Q : α → Sg → Prop} {R : α → Shared → Prop} (k : ∀ a h' tk' σ', St c σ' h' → Q a σ' → R a ⟨h', c.g, c.d, tk', c.os⟩) (a : α) (s' : Shared) (p : Post0 c Q a s') : R a s' := by
  obtain ⟨_, _, _, rfl, S, q⟩ := p
  exact k _ _ _ _ S q
theorem Post.thru {α : Type} {c : Cx} {Q : α → Sg → Prop} {R : α → Shared → Prop} (k : ∀ a h' tk' σ', St c σ' h' → 0 < tk' → Q a σ' → R a ⟨h', c.g, c.d, tk', c.os⟩) (a : α) (s' : Shared) (p : Post c Q a s') : R a s' := by
  obtain ⟨_, _, _, rfl, S, p0, q⟩ := p
  exact k _ _ _ _ S p0 q
noncomputable def NoE : Value → Shared → Prop := fun _ _ => False
structure WP {α : Type} (c : Cx) (σ : Sg) (t : Sem α) (Q : α → Sg → Prop) : Prop where
  run : ∀ A h tk, Room A c.dp c.un → St c σ h → 0 < tk → wpAny (model PR c.w) A t (Post c Q) NoE ⟨h, c.g, c.d, tk, c.os⟩
structure WC (c : Cx) (σ : Sg) (k : Code) (Q : Value → Sg → Prop) : Prop where
  run : ∀ A h tk, Room A c.dp c.un → St c σ h → 0 < tk → codeAny (model PR c.w) A k (fun r s' => match r with | .ok (.ret v) => Post c Q v s' | .ok _ => False | .error e => NoE e s') ⟨h, c.g, c.d, tk, c.os⟩
theorem WP.runK {α : Type} {c : Cx} {σ : Sg} {t : Sem α} {K : α → Sg → Prop} {A : Around} {h : Heap} {tk : Nat} {Q : α → Shared → Prop} {E : Value → Shared → Prop} (H : WP c σ t K) (R : Room A c.dp c.un) (S : St c σ h) (p : 0 < tk) (k : ∀ a h' tk' σ', St c σ' h' → 0 < tk' → K a σ' → Q a ⟨h', c.g, c.d, tk', c.os⟩) : wpAny (model PR c.w) A t Q E ⟨h, c.g, c.d, tk, c.os⟩ :=
  wpAny_mono (H.run A h tk R S p) (Post.thru k) fun _ _ e => e.elim
theorem WP.runEq {α : Type} {c : Cx} {σ X : Sg} {t : Sem α} {A : Around} {h : Heap} {tk : Nat} {Q : α → Shared → Prop} {E : Value → Shared → Prop} (H : WP c σ t (fun _ σ' => σ' = X)) (R : Room A c.dp c.un) (S : St c σ h) (p : 0 < tk) (k : ∀ a h' tk', St c X h' → 0 < tk' → Q a ⟨h', c.g, c.d, tk', c.os⟩) : wpAny (model PR c.w) A t Q E ⟨h, c.g, c.d, tk, c.os⟩ :=
  H.runK R S p fun a h' tk' _ S' p' e => k a h' tk' (e ▸ S') p'
theorem WP.of0 {α : Type} {c : Cx} {σ : Sg} {t : Sem α} {Q : α → Sg → Prop} (H : ∀ A h tk, Room A c.dp c.un → St c σ h → 0 < tk → wpAny (model PR c.w) A t (Post0 c Q) NoE ⟨h, c.g, c.d, tk, c.os⟩) : WP c σ t Q := ⟨fun A h tk R S p =>
  wpAny_mono (wpAny_toks_of (n := 1) p (H A h tk R S p)) (fun a s' ⟨hn, h', tk', σ', e, S', q⟩ => ⟨h', tk', σ', e, S', by subst e; exact hn, q⟩) (fun e s' x => x.2)⟩

section
variable {α β : Type} {c : Cx} {σ : Sg} {env : Env}

theorem St.keep {h : Heap} (S : St c σ h) : ∀ b o, c.h₀.get? b = some o → h.get? b = some o := S.fr.keep
theorem St.base {h : Heap} (S : St c σ h) : Base c.w h := c.base.keeps S.keep
theorem St.get {h : Heap} {a p} (Z : St c σ h) (m : LedAt a p σ.news) : ∃ o, h.get? a = some o ∧ p o := (Z.nw _ m.mem).1
theorem St.push {h : Heap} (Z : St c σ h) (o : Obj) (p : Ob) (hp : p o) (hf : o.isFreed = false) : St c ⟨σ.vs, (h.objs.size, p) :: σ.news⟩ (h.push o) := by
  obtain ⟨oL, _, _, hL, _⟩ := Z.fr.ns
  refine ⟨Z.fr.push o, fun q hq => ?_, List.nodup_cons.mpr ⟨fun hm => ?_, Z.nd⟩⟩
  · rcases List.mem_cons.mp hq with rfl | hq
    · refine ⟨⟨o, Heap.get?_push_size _ hf, hp⟩, Nat.ne_of_gt (Heap.lt_size hL), ?_⟩
      cases e : c.h₀.get? h.objs.size with
      | none => rfl
      | some o' => exact absurd (Heap.lt_size (Z.fr.keep _ _ e)) (Nat.lt_irrefl _)
    · obtain ⟨⟨o', h1, h2⟩, h3, h4⟩ := Z.nw q hq
      exact ⟨⟨o', Heap.get?_push_of_some _ h1, h2⟩, h3, h4⟩
  · obtain ⟨q, hq, e⟩ := List.mem_map.mp hm
    obtain ⟨⟨o', h1, _⟩, _⟩ := Z.nw q hq
    exact absurd (Heap.lt_size h1) (by rw [e]; exact Nat.lt_irrefl _)
theorem St.upd {h h' : Heap} {a p p' l'} (Z : St c σ h) (u : LedSet a p p' σ.news l') (hs : Heap.SameBut a h h') (ho : ∃ o, h'.get? a = some o ∧ p' o) : St c ⟨σ.vs, l'⟩ h' := by
  have z := Z.nw _ u.at.mem
  refine ⟨Z.fr.change hs z.2.1 z.2.2, fun q hq => ?_, by rw [u.keys]; exact Z.nd⟩
  rcases u.ent Z.nd q hq with e | ⟨h1, h2⟩
  · subst e; exact ⟨ho, z.2.1, z.2.2⟩
  · obtain ⟨⟨o', y1, y2⟩, y3⟩ := Z.nw q h1
    exact ⟨⟨o', (hs.2 q.1 h2).trans y1, y2⟩, y3⟩
theorem St.sub {h : Heap} {l : Led} (Z : St c σ h) (hl : l.Sublist σ.news) : St c ⟨σ.vs, l⟩ h :=
  ⟨Z.fr, fun p hp => Z.nw p (hl.mem hp), (hl.map (·.1)).nodup Z.nd⟩
theorem St.ext {h h' : Heap} (Z : St c σ h) (hk : ∀ b o, h.get? b = some o → h'.get? b = some o) : St c σ h' :=
  ⟨⟨Z.fr.ns.keeps hk, fun b o e => hk _ _ (Z.fr.keep b o e), Z.fr.above⟩, fun p hp => by
    obtain ⟨⟨o', y1, y2⟩, y3⟩ := Z.nw p hp
    exact ⟨⟨o', hk _ _ y1, y2⟩, y3⟩, Z.nd⟩
theorem St.set {h h' : Heap} {vs' : List (Option Value)} (Z : St c σ h) (hn : h'.Ns c.L (slotGet c.ns vs')) (hs : Heap.SameBut c.L h h') : St c ⟨vs', σ.news⟩ h' :=
  ⟨Z.fr.set hn hs, fun p hp => by
    obtain ⟨⟨o', y1, y2⟩, y3, y4⟩ := Z.nw p hp
    exact ⟨⟨o', (hs.2 _ y3).trans y1, y2⟩, y3, y4⟩, Z.nd⟩

theorem Post.mono {Q Q' : α → Sg → Prop} (h : ∀ a σ', Q a σ' → Q' a σ') {a : α} {s' : Shared} (p : Post c Q a s') : Post c Q' a s' :=
  let ⟨h', tk', σ', e, S, hp, q⟩ := p; ⟨h', tk', σ', e, S, hp, h _ _ q⟩
theorem Post.go {Q : β → Sg → Prop} {f : α → Sem β} {a : α} {s' : Shared} {A : Around} (R : Room A c.dp c.un) (p : Post c (fun a σ' => WP c σ' (f a) Q) a s') : wpAny (model PR c.w) A (f a) (Post c Q) NoE s' := by
  obtain ⟨h', tk', σ', rfl, S, hp, q⟩ := p
  exact q.run A h' tk' R S hp
theorem WP.mono {t : Sem α} {Q Q' : α → Sg → Prop} (H : WP c σ t Q) (h : ∀ a σ', Q a σ' → Q' a σ') : WP c σ t Q' :=
  ⟨fun A h' tk R S p₀ => wpAny_mono (H.run A h' tk R S p₀) (fun _ _ p => p.mono h) fun _ _ e => e⟩
theorem WP.ret {a : α} {Q : α → Sg → Prop} (H : Q a σ) : WP c σ (pure a) Q := .of0 fun _ _ _ _ S _ => wpAny_pure ⟨_, _, _, rfl, S, H⟩
theorem WP.bnd {m : Sem α} {f : α → Sem β} {Q : β → Sg → Prop} (H : WP c σ m (fun a σ' => WP c σ' (f a) Q)) : WP c σ (m >>= f) Q :=
  ⟨fun A h tk R S p₀ => wpAny_bind (wpAny_mono (H.run A h tk R S p₀) (fun _ _ p => p.go R) fun _ _ e => e)⟩
theorem WP.hold {vs : List Value} {m : Sem α} {Q : α → Sg → Prop} (H : WP c σ m Q) : WP c σ (PySem.holding vs m) Q := ⟨fun A h tk R S p₀ => wpAny_holding (H.run A h tk R S p₀)⟩
theorem WP.stand {pos : Pos} {Q : Unit → Sg → Prop} (H : Q () σ) : WP c σ (PySem.standAt pos) Q := .of0 fun _ _ _ _ S _ => wpAny_standAt ⟨_, _, _, rfl, S, H⟩
theorem WP.sub {t : Sem α} {Q : α → Sg → Prop} {vs l l'} (hl : List.Sublist l l') (H : WP c ⟨vs, l⟩ t Q) : WP c ⟨vs, l'⟩ t Q := ⟨fun A h tk R S p₀ => H.run A h tk R (S.sub hl) p₀⟩

noncomputable def hPlain (e : PySem.Expr) : Bool := !(Nat.beq e.ctorIdx 22)
noncomputable def hNoComp (e : PySem.Expr) : Bool := !(Nat.ble 8 e.ctorIdx && Nat.ble e.ctorIdx 10)
noncomputable def hNoSet (e : PySem.Expr) : Bool := !(Nat.beq e.ctorIdx 7)
noncomputable def hNoAttr (e : PySem.Expr) : Bool := !(Nat.beq e.ctorIdx 20)
noncomputable def hLeaf (e : PySem.Expr) : Bool := !(Nat.beq e.ctorIdx 0 || Nat.beq e.ctorIdx 3 || Nat.beq e.ctorIdx 5 || Nat.beq e.ctorIdx 15)
noncomputable def hCallee : PySem.Expr → Nat
  | .Call f _ _ _ => f.ctorIdx
  | _ => 0
noncomputable def hNoCall (e : PySem.Expr) : Bool := !(Nat.beq (hCallee e) 23)
theorem star_plain {e : PySem.Expr} {rest : List PySem.Expr} {env : Env} (h : hPlain e = true) : starEach (e :: rest) env = (false, eval e env) :: starEach rest env := by
  cases e <;> first | rfl | cases h
theorem swaps_plain {e : PySem.Expr} {t : Option PySem.Expr} {l : Nat} {env : Env} (h : hNoComp e = true) : swapsWith e t l env = Pure.pure false := by
  cases e <;> first | rfl | cases h
theorem behind_plain {op : CmpOp} {e : PySem.Expr} (h : hNoSet e = true) : behindInMarks op e = false := by
  cases e <;> first | rfl | cases h
theorem base_plain {o : PySem.Expr} {a : Str} {env : Env} {t : Sem Value} (h : hNoCall o = true) : attributeBase o a env t = t := by
  cases o with
  | Call f args kws p => cases f <;> first | rfl | cases h
  | _ => rfl
theorem leaf_plain {e : PySem.Expr} {env : Env} {whole : Sem Value} (h : hLeaf e = true) : isTrue e env whole = (do let v ← whole; PySem.standAt e.pos; PySem.holding [v] (truthy v)) := by
  cases e <;> first | rfl | cases h
theorem call_plain' {f : PySem.Expr} {args : List PySem.Expr} {pos : Pos} {env : Env} (h : hNoAttr f = true) : eval (f.Call args [] pos) env = (do
          let f ← eval f env
          callWith pos f [] (backTo pos (starEach args env)) (backToKw pos (keywordEach [] env))) := by
  cases f <;> first | rfl | cases h
theorem backTo_plain {pos : Pos} : ∀ {args : List PySem.Expr} {env : Env}, args.all hPlain = true → (backTo pos (starEach args env)).all (fun x => !x.1) = true
  | [], _, _ => rfl
  | e :: r, env, h => by
    obtain ⟨h1, h2⟩ := Bool.and_eq_true_iff.mp h
    rw [star_plain h1]
    exact backTo_plain h2
theorem backTo_none {pos : Pos} : ∀ {args : List PySem.Expr} {env : Env}, args.all hPlain = true → (backTo pos (starEach args env)).any (·.1) = false
  | [], _, _ => rfl
  | e :: r, env, h => by
    obtain ⟨h1, h2⟩ := Bool.and_eq_true_iff.mp h
    rw [star_plain h1]
    exact backTo_none h2

noncomputable def FQ (qn : Sg → Prop) (qr : Value → Sg → Prop) (qb qc : Sg → Prop) : Flow → Sg → Prop
  | .next, σ => qn σ
  | .ret v, σ => qr v σ
  | .brk, σ => qb σ
  | .cont, σ => qc σ
noncomputable def WS (c : Cx) (σ : Sg) (env : Env) (st : Stmt) (qn : Sg → Prop) (qr : Value → Sg → Prop) (qb qc : Sg → Prop) : Prop := WP c σ (exec st env) (FQ qn qr qb qc)
noncomputable def WL (c : Cx) (σ : Sg) (env : Env) (sts : List Stmt) (qn : Sg → Prop) (qr : Value → Sg → Prop) (qb qc : Sg → Prop) : Prop := WP c σ (execs sts env) (FQ qn qr qb qc)
noncomputable abbrev Le (q' q : Sg → Prop) : Prop := ∀ σ, q' σ → q σ
noncomputable abbrev LeV (q' q : Value → Sg → Prop) : Prop := ∀ v σ, q' v σ → q v σ
structure WLN (c : Cx) (σ : Sg) (env : Env) (sts : List Stmt) (qn : Sg → Prop) (qr : Value → Sg → Prop) (qb qc : Sg → Prop) : Prop where
  all : ∀ (qn' : Sg → Prop) (qr' : Value → Sg → Prop) (qb' qc' : Sg → Prop), Le qn qn' → LeV qr qr' → Le qb qb' → Le qc qc' → WL c σ env sts qn' qr' qb' qc'
theorem WLN.wl {c : Cx} {σ : Sg} {env : Env} {sts : List Stmt} {qn : Sg → Prop} {qr : Value → Sg → Prop} {qb qc : Sg → Prop} (H : WLN c σ env sts qn qr qb qc) : WL c σ env sts qn qr qb qc := H.all _ _ _ _ (fun _ h => h) (fun _ _ h => h) (fun _ h => h) (fun _ h => h)
noncomputable def BR (b : Bool) (p q : Prop) : Prop := (b = true → p) ∧ (b = false → q)
theorem BR.t {b : Bool} {p q : Prop} (h : b = true) (H : p) : BR b p q := ⟨fun _ => H, fun e => by (rw [h] at e; cases e)⟩
theorem BR.f {b : Bool} {p q : Prop} (h : b = false) (H : q) : BR b p q := ⟨fun e => by (rw [h] at e; cases e), fun _ => H⟩
theorem BR.tt {p q : Prop} (H : p) : BR true p q := BR.t rfl H
theorem BR.ff {p q : Prop} (H : q) : BR false p q := BR.f rfl H
theorem BR.ite {b : Bool} {p q : Prop} (h : BR b p q) : if b = true then p else q := by
  cases b
  · exact h.2 rfl
  · exact h.1 rfl
structure WB (c : Cx) (σ : Sg) (env : Env) (e : PySem.Expr) (qt qf : Sg → Prop) : Prop where
  run : ∀ whole, whole = eval e env → WP c σ (isTrue e env whole) (fun b σ' => BR b (qt σ') (qf σ'))
variable {qn qb qc qt qf : Sg → Prop} {qr : Value → Sg → Prop} {pos p1 : Pos} {Q : Value → Sg → Prop}

theorem WL.nil (H : qn σ) : WL c σ env [] qn qr qb qc := .of0 fun _ _ _ _ S _ => wpAny_execs_nil ⟨_, _, _, rfl, S, H⟩
theorem WL.cons {st rest} (H : WS c σ env st (fun σ' => WL c σ' env rest qn qr qb qc) qr qb qc) : WL c σ env (st :: rest) qn qr qb qc := by
  refine ⟨fun A h tk R S p₀ => ?_⟩
  refine wpAny_execs_cons (H.runK R S p₀ ?_)
  rintro f h1 tk1 σ1 S1 p1 H1
  cases f with
  | next => exact H1.run A h1 tk1 R S1 p1
  | _ => exact ⟨_, _, _, rfl, S1, p1, H1⟩
theorem WS.If {test body orelse} (H : WB c σ env test (fun σ' => WL c σ' env body qn qr qb qc) (fun σ' => WL c σ' env orelse qn qr qb qc)) : WS c σ env (.If test body orelse pos) qn qr qb qc := by
  refine ⟨fun A h tk R S p₀ => ?_⟩
  refine wpAny_If ((H.run _ rfl).runK R S p₀ ?_)
  rintro b h1 tk1 σ1 S1 p1 H1
  cases b
  · exact (H1.2 rfl).run A h1 tk1 R S1 p1
  · exact (H1.1 rfl).run A h1 tk1 R S1 p1
theorem WS.Return {e} (H : WP c σ (eval e env) qr) : WS c σ env (.Return (some e) pos) qn qr qb qc := ⟨fun A h tk R S p₀ => wpAny_Return_some (wpAny_mono (H.run A h tk R S p₀) (fun _ _ p => p) fun _ _ e => e)⟩
theorem WS.ReturnNone (H : qr .none σ) : WS c σ env (.Return none pos) qn qr qb qc := .of0 fun _ _ _ _ S _ => wpAny_Return_none ⟨_, _, _, rfl, S, H⟩
theorem WS.Pass (H : qn σ) : WS c σ env (.Pass pos) qn qr qb qc := .of0 fun _ _ _ _ S _ => wpAny_Pass ⟨_, _, _, rfl, S, H⟩
theorem WS.Break (H : qb σ) : WS c σ env (.Break pos) qn qr qb qc := .of0 fun _ _ _ _ S _ => wpAny_Break ⟨_, _, _, rfl, S, H⟩
theorem WS.Continue (H : qc σ) : WS c σ env (.Continue pos) qn qr qb qc := .of0 fun _ _ _ _ S _ => wpAny_Continue ⟨_, _, _, rfl, S, H⟩
theorem WS.Expr {e} (H : WP c σ (eval e env) (fun v σ' => (∀ a, v ≠ .ref a) ∧ qn σ')) (hi : interactive env = false) (hs : hNoComp e = true := by with_unfolding_all rfl) : WS c σ env (.Expr e pos) qn qr qb qc := by
  refine ⟨fun A h tk R S p₀ => ?_⟩
  refine wpAny_Expr (H.runK R S p₀ ?_) hi (swaps_plain hs)
  rintro v h1 tk1 σ1 S1 p1 ⟨H1, H2⟩
  cases v with
  | ref a => exact absurd rfl (H1 a)
  | _ => exact ⟨_, _, _, rfl, S1, p1, H2⟩
theorem WS.Assign {x value} (H : WP c σ (eval value env) (fun v σ₁ => WP c σ₁ (storeName env x v) (fun _ σ₂ => qn σ₂))) (hs : hNoComp value = true := by with_unfolding_all rfl) :
    WS c σ env (.Assign [.Name x p1] value pos) qn qr qb qc := by
  refine ⟨fun A h tk R S p₀ => ?_⟩
  refine wpAny_Assign_Name (H.runK R S p₀ ?_) (swaps_plain hs)
  rintro v h1 tk1 σ1 S1 p1 H1
  exact wpAny_mono (H1.run A h1 tk1 R S1 p1) (fun _ _ p => p) fun _ _ e => e
theorem WS.AugName {x op value} (H : WP c σ (loadName env x) (fun old σ₁ => WP c σ₁ (eval value env) (fun v σ₂ => WP c σ₂ (inplaceOp op old v) (fun r σ₃ => WP c σ₃ (storeName env x r) (fun _ σ₄ => qn σ₄))))) :
    WS c σ env (.AugAssign (.Name x p1) op value pos) qn qr qb qc := by
  refine ⟨fun A h tk R S p₀ => ?_⟩
  refine wpAny_AugAssign_Name (H.runK R S p₀ ?_)
  rintro v h1 tk1 σ1 S1 p1 H1
  refine H1.runK R S1 p1 ?_
  rintro v h2 tk2 σ2 S2 p2 H2
  refine H2.runK R S2 p2 ?_
  rintro v h3 tk3 σ3 S3 p3 H3
  exact wpAny_mono (H3.run A h3 tk3 R S3 p3) (fun _ _ p => p) fun _ _ e => e

theorem WB.leaf {e} (H : WP c σ (eval e env) (fun v σ₁ => WP c σ₁ (truthy v) (fun b σ' => BR b (qt σ') (qf σ')))) (he : hLeaf e = true := by with_unfolding_all rfl) : WB c σ env e qt qf := by
  refine ⟨fun whole hw => ⟨fun A h tk R S p₀ => ?_⟩⟩
  subst hw
  refine isTrue_plain (wpAny_mono (H.run A h tk R S p₀) (fun _ _ p => p.go R) fun _ _ e => e) (leaf_plain he)
theorem WB.cmp {l op r} (H : WP c σ (eval l env) (fun a σ₁ => WP c σ₁ (eval r env) (fun b σ₂ => WP c σ₂ (compareOp op a b) (fun v σ₃ => WP c σ₃ (truthy v) (fun b σ' => BR b (qt σ') (qf σ'))))))
    (hm : hNoSet r = true := by with_unfolding_all rfl) : WB c σ env (.Compare l [op] [r] pos) qt qf := by
  refine ⟨fun whole hw => ⟨fun A h tk R S p₀ => ?_⟩⟩
  subst hw
  refine wpAny_isTrue_Compare1 (H.runK R S p₀ ?_) (behind_plain hm)
  rintro v h1 tk1 σ1 S1 p1 H1
  refine H1.runK R S1 p1 ?_
  rintro v h2 tk2 σ2 S2 p2 H2
  refine H2.runK R S2 p2 ?_
  rintro v h3 tk3 σ3 S3 p3 H3
  exact H3.run A h3 tk3 R S3 p3
theorem WB.not {x} (H : WB c σ env x qf qt) : WB c σ env (.UnaryOp .Not x pos) qt qf := by
  refine ⟨fun whole hw => ⟨fun A h tk R S p₀ => ?_⟩⟩
  subst hw
  refine isTrue_not ((H.run _ rfl).runK R S p₀ ?_)
  rintro b h1 tk1 σ1 S1 p1 H1
  refine ⟨_, _, _, rfl, S1, p1, ?_⟩
  cases b
  · exact BR.t rfl (H1.2 rfl)
  · exact BR.f rfl (H1.1 rfl)
theorem WB.and0 (H : qt σ) : WB c σ env (.BoolOp .And [] pos) qt qf := by
  refine ⟨fun whole hw => ⟨fun A h tk R S p₀ => ?_⟩⟩
  subst hw
  exact isTrue_and_nil ⟨_, _, _, rfl, S, p₀, BR.tt H⟩
theorem WB.or0 (H : qf σ) : WB c σ env (.BoolOp .Or [] pos) qt qf := by
  refine ⟨fun whole hw => ⟨fun A h tk R S p₀ => ?_⟩⟩
  subst hw
  exact isTrue_or_nil ⟨_, _, _, rfl, S, p₀, BR.ff H⟩
theorem WB.and {x rest} (H : WB c σ env x (fun σ' => WB c σ' env (.BoolOp .And rest pos) qt qf) qf) : WB c σ env (.BoolOp .And (x :: rest) pos) qt qf := by
  refine ⟨fun whole hw => ⟨fun A h tk R S p₀ => ?_⟩⟩
  subst hw
  refine isTrue_and ((H.run _ rfl).runK R S p₀ ?_)
  rintro b h1 tk1 σ1 S1 p1 H1
  cases b
  · exact ⟨_, _, _, rfl, S1, p1, BR.ff (H1.2 rfl)⟩
  · exact ((H1.1 rfl).run _ rfl).run A h1 tk1 R S1 p1
theorem WB.or {x rest} (H : WB c σ env x qt (fun σ' => WB c σ' env (.BoolOp .Or rest pos) qt qf)) : WB c σ env (.BoolOp .Or (x :: rest) pos) qt qf := by
  refine ⟨fun whole hw => ⟨fun A h tk R S p₀ => ?_⟩⟩
  subst hw
  refine isTrue_or ((H.run _ rfl).runK R S p₀ ?_)
  rintro b h1 tk1 σ1 S1 p1 H1
  cases b
  · exact ((H1.2 rfl).run _ rfl).run A h1 tk1 R S1 p1
  · exact ⟨_, _, _, rfl, S1, p1, BR.tt (H1.1 rfl)⟩
theorem WP.tbool {b : Bool} {Q : Bool → Sg → Prop} (H : Q b σ) : WP c σ (truthy (.bool b)) Q := .of0 fun _ _ _ _ S _ => wpAny_truthy_bool ⟨_, _, _, rfl, S, H⟩
theorem WP.tnone {Q : Bool → Sg → Prop} (H : Q false σ) : WP c σ (truthy .none) Q := .of0 fun _ _ _ _ S _ => PyProof.Rows.truthy_none ⟨_, _, _, rfl, S, H⟩
theorem WP.tint {i : Int} {t} {Q : Bool → Sg → Prop} (H : Q (i != 0) σ) : WP c σ (truthy (.int i t)) Q := .of0 fun _ _ _ _ S _ => PyProof.Rows.truthy_int ⟨_, _, _, rfl, S, H⟩
theorem WP.tstr {x : Str} {t} {Q : Bool → Sg → Prop} (hx : x.length ≤ 1000000) (H : Q ((x.length : Int) != 0) σ) : WP c σ (truthy (.str x t)) Q := .of0 fun _ _ _ _ S _ => SBL.truthy (by lia) ⟨_, _, _, rfl, S, H⟩

theorem WP.xBin {l op r} (H : WP c σ (eval l env) (fun a σ₁ => WP c σ₁ (eval r env) (fun b σ₂ => WP c σ₂ (binaryOp op a b) Q))) : WP c σ (eval (.BinOp l op r pos) env) Q := by
  refine ⟨fun A h tk R S p₀ => ?_⟩
  refine wpAny_BinOp (H.runK R S p₀ ?_)
  rintro a h1 tk1 σ1 S1 p1 H1
  exact wpAny_mono (H1.run A h1 tk1 R S1 p1) (fun _ _ p => p.go R) fun _ _ e => e
theorem WP.xCompare {l op r} (H : WP c σ (eval l env) (fun a σ₁ => WP c σ₁ (eval r env) (fun b σ₂ => WP c σ₂ (compareOp op a b) Q))) (hm : hNoSet r = true := by with_unfolding_all rfl) :
    WP c σ (eval (.Compare l [op] [r] pos) env) Q := by
  refine ⟨fun A h tk R S p₀ => ?_⟩
  refine wpAny_Compare1 (H.runK R S p₀ ?_) (behind_plain hm)
  rintro a h1 tk1 σ1 S1 p1 H1
  exact wpAny_mono (H1.run A h1 tk1 R S1 p1) (fun _ _ p => p.go R) fun _ _ e => e
theorem WP.xUnary {op x} (H : WP c σ (eval x env) (fun v σ₁ => WP c σ₁ (unaryOp op v) Q)) : WP c σ (eval (.UnaryOp op x pos) env) Q := ⟨fun A h tk R S p₀ => UnaryOp_ (wpAny_mono (H.run A h tk R S p₀) (fun _ _ p => p.go R) fun _ _ e => e)⟩
theorem WP.xIf {test body orelse} (H : WB c σ env test (fun σ' => WP c σ' (eval body env) Q) (fun σ' => WP c σ' (eval orelse env) Q)) : WP c σ (eval (.IfExp test body orelse pos) env) Q := by
  refine ⟨fun A h tk R S p₀ => ?_⟩
  refine IfExp_ ((H.run _ rfl).runK R S p₀ ?_)
  rintro b h1 tk1 σ1 S1 p1 H1
  cases b
  · exact (H1.2 rfl).run A h1 tk1 R S1 p1
  · exact (H1.1 rfl).run A h1 tk1 R S1 p1
theorem WP.kInt {i k} (H : ∀ t, Q (.int i t) σ) : WP c σ (eval (.Constant (.int i) k pos) env) Q := .of0 fun _ _ _ _ S _ => wpAny_Constant_int ⟨_, _, _, rfl, S, H _⟩
theorem WP.kStr {x k} (H : ∀ t, Q (.str x t) σ) : WP c σ (eval (.Constant (.str x) k pos) env) Q := .of0 fun _ _ _ _ S _ => Calls.Constant_str ⟨_, _, _, rfl, S, H _⟩
theorem WP.kNone {k} (H : Q .none σ) : WP c σ (eval (.Constant .none k pos) env) Q := .of0 fun _ _ _ _ S _ _ _ _ => ⟨_, _, _, rfl, S, H⟩
theorem WP.kBool {b k} (H : Q (.bool b) σ) : WP c σ (eval (.Constant (.bool b) k pos) env) Q := .of0 fun _ _ _ _ S _ _ _ _ => ⟨_, _, _, rfl, S, H⟩
theorem WP.xList {elts} (H : WP c σ (spliced (backTo pos (starEach elts env))) (fun vs σ₁ => WP c σ₁ (newList vs) Q)) : WP c σ (eval (.List elts pos) env) Q := ⟨fun A h tk R S p₀ => List_ (wpAny_mono (H.run A h tk R S p₀) (fun _ _ p => p.go R) fun _ _ e => e)⟩
theorem WP.xTuple {elts k} (H : WP c σ (spliced (backTo pos (starEach elts env))) (fun vs σ₁ => WP c σ₁ (newTuple vs) Q)) : WP c σ (eval (.Tuple elts k pos) env) Q := ⟨fun A h tk R S p₀ => Tuple_ (wpAny_mono (H.run A h tk R S p₀) (fun _ _ p => p.go R) fun _ _ e => e)⟩
theorem WP.nList {vs : List Value} (hl : vs.length ≤ 4000000) (H : ∀ a, Q (.ref a) ⟨σ.vs, (a, lst vs) :: σ.news⟩) : WP c σ (newList vs) Q := .of0 fun _ _ _ _ Z _ =>
  wpAny_newObj_type ⟨_, _, ⟨σ.vs, (_, lst vs) :: σ.news⟩, rfl, Z.push _ _ ⟨0, rfl⟩ rfl, H _⟩ (by show vs.toArray.size ≤ sizeLine; rw [List.size_toArray, sizeLine_eq]; lia)
theorem WP.nTuple {vs : List Value} (hl : vs.length ≤ 4000000) (H : ∀ a, Q (.ref a) ⟨σ.vs, (a, tup vs) :: σ.news⟩) : WP c σ (newTuple vs) Q := .of0 fun _ _ _ _ Z _ =>
  wpAny_newObj_type ⟨_, _, ⟨σ.vs, (_, tup vs) :: σ.news⟩, rfl, Z.push _ _ ⟨0, rfl⟩ rfl, H _⟩ (by show vs.toArray.size ≤ sizeLine; rw [List.size_toArray, sizeLine_eq]; lia)
theorem WP.sp0 {Q : List Value → Sg → Prop} (H : Q [] σ) : WP c σ (spliced (backTo pos (starEach [] env))) Q := .of0 fun _ _ _ _ S _ => spliced_none ⟨_, _, _, rfl, S, H⟩
theorem WP.sp1 {e rest} {Q : List Value → Sg → Prop} (H : WP c σ (eval e env) (fun v σ₁ => WP c σ₁ (spliced (backTo pos (starEach rest env))) (fun vs σ₂ => Q (v :: vs) σ₂)))
    (he : hPlain e = true := by with_unfolding_all rfl) : WP c σ (spliced (backTo pos (starEach (e :: rest) env))) Q := by
  refine ⟨fun A h tk R S p₀ => ?_⟩
  refine spliced_more (H.runK R S p₀ ?_) (star_plain he)
  rintro a h1 tk1 σ1 S1 p1 H1
  exact wpAny_mono (H1.run A h1 tk1 R S1 p1) (fun _ _ p => p) fun _ _ e => e
theorem WP.xAttr {value attr} (H : WP c σ (eval value env) (fun o σ₁ => WP c σ₁ (getAttr o attr true) Q)) (he : hNoCall value = true := by with_unfolding_all rfl) : WP c σ (eval (.Attribute value attr pos) env) Q := ⟨fun A h tk R S p₀ => Attribute_any_ (wpAny_mono (H.run A h tk R S p₀) (fun _ _ p => p.go R) fun _ _ e => e) (by rw [arm_eval_Attribute, base_plain he])⟩
theorem WP.xAttrN {n np attr} (H : WP c σ (eval (.Name n np) env) (fun o σ₁ => WP c σ₁ (getAttr o attr true) Q)) : WP c σ (eval (.Attribute (.Name n np) attr pos) env) Q := ⟨fun A h tk R S p₀ => PyProof.Rows.Attribute_name (wpAny_mono (H.run A h tk R S p₀) (fun _ _ p => p.go R) fun _ _ e => e)⟩
theorem WP.xSub {value slice} (H : WP c σ (eval value env) (fun o σ₁ => WP c σ₁ (eval slice env) (fun i σ₂ => WP c σ₂ (subscriptTail value slice o i) Q))) : WP c σ (eval (.Subscript value slice pos) env) Q := by
  refine ⟨fun A h tk R S p₀ => ?_⟩
  refine Subscript_ (H.runK R S p₀ ?_)
  rintro a h1 tk1 σ1 S1 p1 H1
  exact wpAny_mono (H1.run A h1 tk1 R S1 p1) (fun _ _ p => p.go R) fun _ _ e => e
theorem WP.xCall {func args} (H : WP c σ (eval func env) (fun f σ₁ => WP c σ₁ (callWith pos f [] (backTo pos (starEach args env)) []) Q)) (he : hNoAttr func = true := by with_unfolding_all rfl) : WP c σ (eval (.Call func args [] pos) env) Q := ⟨fun A h tk R S p₀ => Call_ (wpAny_mono (H.run A h tk R S p₀) (fun _ _ p => p.go R) fun _ _ e => e) (call_plain' he)⟩
theorem WP.xMeth {o name args} (H : WP c σ (eval o env) (fun ov σ₁ => WP c σ₁ (getMethod ov name (do return (← importBound o env).getD true)) (fun fx σ₂ => WP c σ₂ (callWith pos fx.1 fx.2 (backTo pos (starEach args env)) []) Q)))
    (hb : attributeBase o name env (eval o env) = eval o env) (hl : (p1.endLine == pos.line) = true := by with_unfolding_all rfl) (ha : args.all hPlain = true := by with_unfolding_all rfl) (hn : decide (args.length < 30) = true := by with_unfolding_all rfl) : WP c σ (eval (.Call (.Attribute o name p1) args [] pos) env) Q := by
  refine ⟨fun A h tk R S p₀ => ?_⟩
  have hform : methodCallForm (args.length + ([] : List Keyword).length) (backTo pos (starEach args env)) (backToKw pos (keywordEach [] env)) = true := by
    unfold methodCallForm
    rw [backTo_plain ha, show backToKw pos (keywordEach [] env) = [] from rfl]
    simpa using hn
  have hpos : methodCallPos true o env p1 pos = Pure.pure pos := by unfold methodCallPos; simp [hl]
  rw [arm_eval_Call, hb]
  refine wpAny_bind (H.runK R S p₀ ?_)
  rintro ov h1 tk1 σ1 S1 p1 H1
  refine wpAny_bind (wpAny_standAt ?_)
  unfold methodCall
  rw [hform, hpos]
  refine wpAny_bind (wpAny_holding ?_)
  unfold calleeOf
  rw [if_pos rfl]
  refine H1.runK R S1 p1 ?_
  rintro fx h2 tk2 σ2 S2 p2 H2
  exact wpAny_bind (wpAny_pure (H2.run A h2 tk2 R S2 p2))
theorem WP.xMethP {o name args} (H : WP c σ (eval o env) (fun ov σ₁ => WP c σ₁ (getMethod ov name (do return (← importBound o env).getD true)) (fun fx σ₂ => WP c σ₂ (callWith pos fx.1 fx.2 (backTo pos (starEach args env)) []) Q)))
    (hb : hNoCall o = true := by with_unfolding_all rfl) (hl : (p1.endLine == pos.line) = true := by with_unfolding_all rfl) (ha : args.all hPlain = true := by with_unfolding_all rfl) (hn : decide (args.length < 30) = true := by with_unfolding_all rfl) : WP c σ (eval (.Call (.Attribute o name p1) args [] pos) env) Q := .xMeth H (base_plain hb) hl ha hn
end
end Mine
end
section
set_option genInjectivity false
set_option genSizeOf false
set_option genCtorIdx false
set_option bootstrap.genMatcherCode false
open PySem PySem.W PyProof.Rows PySem.Calls PySem.Spec
set_option maxRecDepth 100000
set_option maxHeartbeats 8000000
set_option tactic.hygienic false
namespace Mine

noncomputable def globChk (w : World) (p : Str × Value) : Bool :=
  nsIn (KK w) mainGlobals p.1 == some (some p.2) || (nsIn (KK w) mainGlobals p.1 == some none && !(p.1 == ("__name__" : Str)) && bootBuiltins p.1 == some p.2)
noncomputable def fnChk (w : World) (fd : FuncData) (ns : List Str) (gs : List (Str × Value)) : Bool :=
  (fd.scope.kind == .function && !fd.scope.isCoroutine && !fd.scope.isGenerator && fd.scope.names.all (fun x => x.2 != .cell)) &&
  (ns.all (fun x => fd.scope.names.lookup x == some .local && !(x == ("__debug__" : Str))) && decide ns.Nodup) &&
  (gs.all (fun p => fd.scope.names.lookup p.1 == some .globalImplicit && !(p.1 == ("__debug__" : Str)) && globChk w p)) &&
  (fd.globals == mainGlobals && fd.builtins == builtinsNs && codeIn (KK w) fd.code fd.qualname)

structure EnvOk (c : Cx) (ns : List Str) (gs : List (Str × Value)) : Prop where
  nsE : c.ns = ns
  nd : ns.Nodup
  kind : c.env.scope.kind = .function
  LE : c.env.locals = c.L
  loc : ∀ x ∈ ns, c.env.kindOf x = some .local ∧ (x == ("__debug__" : Str)) = false
  glo : ∀ p ∈ gs, c.env.kindOf p.1 = some .globalImplicit ∧ (p.1 == ("__debug__" : Str)) = false ∧ globChk c.w p = true
  eg : c.env.globals = mainGlobals
  eb : c.env.builtins = builtinsNs

section
variable {α β : Type} {c : Cx} {σ : Sg} {ns : List Str} {gs : List (Str × Value)} {pos : Pos}

theorem EnvOk.inter (D : EnvOk c ns gs) : interactive c.env = false := by
  unfold interactive; rw [D.kind]; rfl

theorem St.ns' {h : Heap} (D : EnvOk c ns gs) (S : St c σ h) : h.Ns c.env.locals (slotGet ns σ.vs) := by
  have := S.fr.ns
  rw [D.nsE] at this; rw [D.LE]; exact this
theorem WP.ldN {x v vs l} {Q : Value → Sg → Prop} (D : EnvOk c ns gs) (hs : SlotAt x v ns vs) (H : Q v ⟨vs, l⟩) : WP c ⟨vs, l⟩ (loadName c.env x) Q := .of0 fun _ _ _ _ S _ =>
  wpAny_loadName_local D.kind (D.loc x hs.mem).1 (S.ns' D) (hs.get D.nd) ⟨_, _, _, rfl, S, H⟩
theorem WP.ld {x v vs l} {Q : Value → Sg → Prop} (D : EnvOk c ns gs) (hs : SlotAt x v ns vs) (H : Q v ⟨vs, l⟩) : WP c ⟨vs, l⟩ (eval (.Name x pos) c.env) Q := ⟨fun A h tk R S p₀ => wpAny_Name ((WP.ldN D hs H).run A h tk R S p₀) (D.loc x hs.mem).2⟩
theorem WP.st {x v vs vs' l} {Q : Unit → Sg → Prop} (D : EnvOk c ns gs) (hs : SlotSet x v ns vs vs') (H : Q () ⟨vs', l⟩) : WP c ⟨vs, l⟩ (storeName c.env x v) Q := .of0 fun A h tk _ S _ => by
  refine wpAny_storeName_local (D.loc x hs.mem).1 (S.ns' D) (fun h' hn hsb => ?_) ?_
  · rw [hs.get D.nd] at hn
    rw [D.LE] at hn hsb
    exact ⟨h', _, ⟨vs', l⟩, rfl, S.set (D.nsE ▸ hn) hsb, H⟩
  · rw [D.kind]; rfl

theorem globVal {w : World} {h : Heap} {p : Str × Value} (B : Base w h) (e : globChk w p = true) :
    (∃ mg, h.Ns mainGlobals mg ∧ mg p.1 = some p.2) ∨ (∃ mg mb, h.Ns mainGlobals mg ∧ mg p.1 = none ∧ h.Ns builtinsNs mb ∧ mb p.1 = some p.2) := by
  unfold globChk at e
  obtain ⟨mg, G⟩ := B.g
  rcases Bool.or_eq_true_iff.mp e with e | e
  · exact .inl ⟨mg, G, mg_of B.k G (beq_iff_eq.mp e)⟩
  · obtain ⟨e, e3⟩ := Bool.and_eq_true_iff.mp e
    obtain ⟨e1, e2⟩ := Bool.and_eq_true_iff.mp e
    obtain ⟨mb, Hb, hb⟩ := B.b
    refine .inr ⟨mg, mb, G, mg_none_of B.k G (beq_iff_eq.mp e1), Hb, ?_⟩
    have hne : p.1 ≠ "__name__" := by
      intro q; rw [q] at e2; simp at e2
    rw [hb _ hne]; exact beq_iff_eq.mp e3
inductive GAt (x : Str) (v : Value) : List (Str × Value) → Prop
  | head {r} : GAt x v ((x, v) :: r)
  | tail {p r} : GAt x v r → GAt x v (p :: r)
theorem GAt.mem {x v l} (h : GAt x v l) : (x, v) ∈ l := by
  induction h with
  | head => exact .head _
  | tail _ ih => exact .tail _ ih
theorem WP.gl {x v} {Q : Value → Sg → Prop} (D : EnvOk c ns gs) (hg : GAt x v gs) (H : Q v σ) : WP c σ (eval (.Name x pos) c.env) Q := .of0 fun A h tk _ S _ => by
  obtain ⟨h1, h2, h3⟩ := D.glo _ hg.mem
  refine Name_function_global D.kind h1 ?_ h2
  rcases globVal S.base h3 with ⟨mg, G, e⟩ | ⟨mg, mb, G, e, Hb, e'⟩
  · exact loadGlobal_global (by rw [D.eg]; exact G) e ⟨_, _, _, rfl, S, H⟩
  · exact loadGlobal_builtin (by rw [D.eg]; exact G) e (by rw [D.eb]; exact Hb) e' ⟨_, _, _, rfl, S, H⟩

noncomputable def retf : Flow → Value
  | .ret v => v
  | _ => .none

structure FnAt (w : World) (f : Addr) (fd : FuncData) (body : List Stmt) (ns : List Str) (gs : List (Str × Value)) : Prop where
  here : ∃ oc od osl, (KK w).lookup f = some ⟨oc, od, .func fd, osl⟩
  body : fd.body = .stmts body
  chk : fnChk w fd ns gs = true

theorem fnChk_cut {w fd ns gs} (h : fnChk w fd ns gs = true) :
    (fd.scope.kind = .function ∧ fd.scope.isCoroutine = false ∧ fd.scope.isGenerator = false ∧ (∀ x ∈ fd.scope.names, x.2 ≠ .cell)) ∧
    ((∀ x ∈ ns, fd.scope.names.lookup x = some .local ∧ (x == ("__debug__" : Str)) = false) ∧ ns.Nodup) ∧
    (∀ p ∈ gs, fd.scope.names.lookup p.1 = some .globalImplicit ∧ (p.1 == ("__debug__" : Str)) = false ∧ globChk w p = true) ∧
    (fd.globals = mainGlobals ∧ fd.builtins = builtinsNs ∧ codeIn (KK w) fd.code fd.qualname = true) := by
  unfold fnChk at h
  simp only [Bool.and_eq_true, List.all_eq_true, Bool.not_eq_true', decide_eq_true_eq] at h
  obtain ⟨⟨⟨⟨⟨⟨a1, a2⟩, a3⟩, a4⟩, b1, b2⟩, c1⟩, ⟨d1, d2⟩, d3⟩ := h
  refine ⟨⟨beq_iff_eq.mp a1, a2, a3, fun x hx => by have := a4 x hx; simpa using this⟩, ⟨fun x hx => ⟨beq_iff_eq.mp (b1 x hx).1, (b1 x hx).2⟩, b2⟩, fun p hp => ⟨beq_iff_eq.mp (c1 p hp).1.1, (c1 p hp).1.2, (c1 p hp).2⟩, beq_iff_eq.mp d1, beq_iff_eq.mp d2, d3⟩

theorem mem_zip_fst {ps : List Str} {vals : List Value} {x : Str × Value} (h : x ∈ ps.zip vals) : x.1 ∈ ps := by
  obtain ⟨a, b⟩ := x
  exact (List.of_mem_zip h).1

noncomputable def BindsOk (w : World) (fd : FuncData) (args : Args) (binds : List (Str × Value)) : Prop := ∀ h g d t os, Base w h → BindsTo ⟨h, g, d, t, os⟩ fd args binds
theorem BindsOk.of_eq {w fd args binds} (h : bindArgs fd args = pure binds) : BindsOk w fd args binds := fun _ _ _ _ _ _ => .of_eq h

inductive KpK (σ : Sg) (Q : Sg → Prop) (σ' : Sg) : Prop
  | mk (add : Led) (h : add.Sublist σ'.news) (q : Q ⟨σ.vs, add ++ σ.news⟩)
noncomputable abbrev Kp (σ : Sg) (Q : Value → Sg → Prop) (v : Value) (σ' : Sg) : Prop := KpK σ (Q v) σ'
inductive KmK (c : Cx) (oL : Ob) (σ : Sg) (Q : Sg → Prop) (σ' : Sg) : Prop
  | mk (l : Led) (h : ((c.L, oL) :: l).Sublist σ'.news) (q : Q ⟨σ.vs, l⟩)
noncomputable abbrev Km (c : Cx) (oL : Ob) (σ : Sg) (Q : Value → Sg → Prop) (v : Value) (σ' : Sg) : Prop := KmK c oL σ (Q v) σ'
theorem WL.wp {K : Value → Sg → Prop} {body env} (H : WL c σ env body (K .none) K (K .none) (K .none)) : WP c σ (execs body env) (fun fl σ' => K (retf fl) σ') :=
  WP.mono H fun fl _ h => by cases fl <;> exact h
theorem WC.pureCall {f : Addr} {fd body args} {Q : Value → Sg → Prop} (ps rest : List Str) (vals : List Value) (dp un : Nat) (nss : List Str) (vss : List (Option Value)) (gs : List (Str × Value)) (hf : FnAt c.w f fd body nss gs) (hb : BindsOk c.w fd args (ps.zip vals)) (hd : dp + 1 ≤ c.dp) (hu : un + 3 ≤ c.un)
    (H : ∀ c' : Cx, c'.w = c.w → c'.dp = dp → c'.un = un → EnvOk c' nss gs → (∀ b o, c.h₀.get? b = some o → c'.h₀.get? b = some o) → (∀ p ∈ σ.news, ∃ o, c'.h₀.get? p.1 = some o ∧ p.2 o) →
      WL c' ⟨vss, []⟩ c'.env body (Kp σ Q .none) (Kp σ Q) (Kp σ Q .none) (Kp σ Q .none))
    (hns : nss = ps ++ rest := by rfl) (hvs : vss = vals.map some ++ rest.map (fun _ => none) := by rfl) (hl : ps.length = vals.length := by rfl) : WC c σ (.call (.ref f) args) Q := by
  subst hns hvs
  obtain ⟨⟨k1, k2, k3, k4⟩, ⟨l1, l2⟩, g1, e1, e2, e3⟩ := fnChk_cut hf.chk
  obtain ⟨oc, od, osl, ho⟩ := hf.here
  have hns : ps.Nodup := (List.nodup_append.mp l2).1
  refine ⟨fun A h tk R S p₀ => ?_⟩
  have B := S.base
  refine codeAny_call_def (s := ⟨h, c.g, c.d, tk, c.os⟩) (by have := R.dep; lia) (B.k _ _ ho) rfl B.nl (codeRec_of B.k e3) hf.body (hb _ _ _ _ _ B) k4
    (fun x hx => (l1 x.1 (List.mem_append_left _ (mem_zip_fst hx))).1) (fun h₁ hn hk => ?_) k2 k3 k1
  dsimp only at hn hk ⊢
  let c' : Cx := { w := c.w, h₀ := h, base := B, env := callEnv fd h.objs.size f, L := h.objs.size, ns := ps ++ rest, dp := dp, un := un, g := c.g, d := c.d, os := c.os }
  have D : EnvOk c' (ps ++ rest) gs := ⟨rfl, l2, k1, rfl, l1, g1, e1, e2⟩
  rw [slots_of_binds rest ps vals hns hl] at hn
  have S' : St c' ⟨vals.map some ++ rest.map (fun _ => none), []⟩ h₁ := ⟨⟨hn, hk, Nat.le_refl _⟩, fun _ hp => (nomatch hp), List.nodup_nil⟩
  have R' : Room (A.deeper (callEnv fd h.objs.size f)) dp un := by
    refine ⟨R.hd, ?_, ?_⟩
    · have := R.dep; show A.depth + 1 + dp < _; lia
    · have := R.un; show A.units + 3 + un < _; lia
  refine wpAny_mono ((H c' rfl rfl rfl D S.keep (fun p hp => (S.nw p hp).1)).wp.run _ h₁ _ R' S' (Nat.lt_of_lt_of_le p₀ (Nat.le_add_right ..))) ?_ (fun _ _ e => e.elim)
  refine Post.thru ?_
  rintro fl h2 tk2 σ2 S2 p2 ⟨add, hsub, hq⟩
  have keep2 : ∀ b o, h.get? b = some o → h2.get? b = some o := S2.keep
  have S3 : St c σ h2 := S.ext keep2
  have hq' : Post c Q (retf fl) ⟨h2, c.g, c.d, tk2, c.os⟩ := by
    refine ⟨h2, tk2, ⟨σ.vs, add ++ σ.news⟩, rfl, ⟨S3.fr, ?_, ?_⟩, p2, hq⟩
    · intro p hp
      rcases List.mem_append.mp hp with hp | hp
      · have y := S2.nw p (hsub.mem hp)
        have hn0 : h.get? p.1 = none := y.2.2
        refine ⟨y.1, ?_, ?_⟩
        · intro e
          obtain ⟨oL, _, _, hL, _⟩ := S.fr.ns
          rw [e, hL] at hn0; cases hn0
        · cases q : c.h₀.get? p.1 with
          | none => rfl
          | some o => rw [S.keep _ _ q] at hn0; cases hn0
      · exact S3.nw p hp
    · rw [List.map_append, List.nodup_append]
      refine ⟨(hsub.map (·.1)).nodup S2.nd, S.nd, fun a ha b hb e => ?_⟩
      obtain ⟨p, hp, rfl⟩ := List.mem_map.mp ha
      obtain ⟨q, hq2, rfl⟩ := List.mem_map.mp hb
      have hn0 : h.get? p.1 = none := (S2.nw p (hsub.mem hp)).2.2
      obtain ⟨oq, hoq, _⟩ := (S.nw q hq2).1
      rw [e, hoq] at hn0; cases hn0
  cases fl <;> exact hq'

theorem WC.mutCall {f : Addr} {fd body args} {Q : Value → Sg → Prop} (ps rest : List Str) (vals : List Value) (dp un : Nat) (nss : List Str) (vss : List (Option Value)) (gs : List (Str × Value)) (hf : FnAt c.w f fd body nss gs) (hb : BindsOk c.w fd args (ps.zip vals)) (hd : dp + 1 ≤ c.dp) (hu : un + 3 ≤ c.un)
    (H : ∀ (c' : Cx) (oL : Ob), c'.w = c.w → c'.dp = dp → c'.un = un → EnvOk c' nss gs → c'.h₀ = c.h₀ →
      WL c' ⟨vss, (c.L, oL) :: σ.news⟩ c'.env body (Km c oL σ Q .none) (Km c oL σ Q) (Km c oL σ Q .none) (Km c oL σ Q .none))
    (hns : nss = ps ++ rest := by rfl) (hvs : vss = vals.map some ++ rest.map (fun _ => none) := by rfl) (hl : ps.length = vals.length := by rfl) : WC c σ (.call (.ref f) args) Q := by
  subst hns hvs
  obtain ⟨⟨k1, k2, k3, k4⟩, ⟨l1, l2⟩, g1, e1, e2, e3⟩ := fnChk_cut hf.chk
  obtain ⟨oc, od, osl, ho⟩ := hf.here
  have hns : ps.Nodup := (List.nodup_append.mp l2).1
  refine ⟨fun A h tk R S p₀ => ?_⟩
  have B := S.base
  obtain ⟨oL, esL, epL, hL, rL⟩ := S.fr.ns
  have hL0 : c.h₀.get? c.L = none := by
    cases q : c.h₀.get? c.L with
    | none => rfl
    | some o => exact absurd (Heap.lt_size q) (Nat.not_lt.mpr S.fr.above)
  refine codeAny_call_def (s := ⟨h, c.g, c.d, tk, c.os⟩) (by have := R.dep; lia) (B.k _ _ ho) rfl B.nl (codeRec_of B.k e3) hf.body (hb _ _ _ _ _ B) k4
    (fun x hx => (l1 x.1 (List.mem_append_left _ (mem_zip_fst hx))).1) (fun h₁ hn hk => ?_) k2 k3 k1
  dsimp only at hn hk ⊢
  let c' : Cx := { w := c.w, h₀ := c.h₀, base := c.base, env := callEnv fd h.objs.size f, L := h.objs.size, ns := ps ++ rest, dp := dp, un := un, g := c.g, d := c.d, os := c.os }
  have D : EnvOk c' (ps ++ rest) gs := ⟨rfl, l2, k1, rfl, l1, g1, e1, e2⟩
  rw [slots_of_binds rest ps vals hns hl] at hn
  have hlt : ∀ a o, h.get? a = some o → a ≠ h.objs.size := fun a o e => Nat.ne_of_lt (Heap.lt_size e)
  have S' : St c' ⟨vals.map some ++ rest.map (fun _ => none), (c.L, (· = oL)) :: σ.news⟩ h₁ := by
    refine ⟨⟨hn, fun b o e => hk b o (S.keep b o e), ?_⟩, ?_, ?_⟩
    · exact Nat.le_of_lt (Nat.lt_of_le_of_lt S.fr.above (Heap.lt_size hL))
    · intro p hp
      rcases List.mem_cons.mp hp with rfl | hp
      · exact ⟨⟨oL, hk _ _ hL, rfl⟩, hlt _ _ hL, hL0⟩
      · obtain ⟨⟨o', y1, y2⟩, _, y4⟩ := S.nw p hp
        exact ⟨⟨o', hk _ _ y1, y2⟩, hlt _ _ y1, y4⟩
    · refine List.nodup_cons.mpr ⟨fun hm => ?_, S.nd⟩
      obtain ⟨p, hp, e⟩ := List.mem_map.mp hm
      exact (S.nw p hp).2.1 e
  have R' : Room (A.deeper (callEnv fd h.objs.size f)) dp un := by
    refine ⟨R.hd, ?_, ?_⟩
    · have := R.dep; show A.depth + 1 + dp < _; lia
    · have := R.un; show A.units + 3 + un < _; lia
  refine wpAny_mono ((H c' (· = oL) rfl rfl rfl D rfl).wp.run _ h₁ _ R' S' (Nat.lt_of_lt_of_le p₀ (Nat.le_add_right ..))) ?_ (fun _ _ e => e.elim)
  refine Post.thru ?_
  rintro fl h2 tk2 σ2 S2 p2 ⟨l, hsub, hq⟩
  have nd := (hsub.map (·.1)).nodup S2.nd
  have nd' := List.nodup_cons.mp nd
  have hq' : Post c Q (retf fl) ⟨h2, c.g, c.d, tk2, c.os⟩ := by
    obtain ⟨⟨oL', hL1, hL2⟩, _⟩ := S2.nw _ (hsub.mem (.head _))
    subst hL2
    refine ⟨h2, tk2, ⟨σ.vs, l⟩, rfl, ⟨⟨⟨_, esL, epL, hL1, rL⟩, S2.fr.keep, S.fr.above⟩, ?_, nd'.2⟩, p2, hq⟩
    intro p hp
    have y := S2.nw p (hsub.mem (.tail _ hp))
    exact ⟨y.1, fun e => nd'.1 (List.mem_map.mpr ⟨p, hp, e⟩), y.2.2⟩
  cases fl <;> exact hq'

theorem WP.callC {f : Value} {pos : List Value} {kw : List (Str × Value)} {Q : Value → Sg → Prop} (H : WC c σ (.call f ⟨pos, kw⟩) Q) : WP c σ (PySem.call f pos kw) Q := by
  refine ⟨fun A h tk R S p₀ => wpAny_call (codeAny_mono (H.run A h tk R S p₀) fun r s' p => ?_)⟩
  cases r with
  | ok f => cases f <;> exact p
  | error e => exact p

theorem WP.args1 {f : Value} {e env} {args : List PySem.Expr} {Q : Args → Sg → Prop} {A h tk} (R : Room A c.dp c.un) (S : St c σ h) (p₀ : 0 < tk) (he : hPlain e = true)
    (H : WP c σ (spliced (backTo pos (starEach (e :: args) env))) (fun vs σ₁ => Q ⟨vs, []⟩ σ₁)) : wpAny (model PR c.w) A (evalArgs f true (backTo pos (starEach (e :: args) env)) []) (Post c Q) NoE ⟨h, c.g, c.d, tk, c.os⟩ := by
  have H' := H.run A h tk R S p₀
  rw [star_plain he] at H' ⊢
  exact evalArgs_plain (wpAny_mono H' (fun _ _ p => p) fun _ _ e => e)
theorem WP.cwFn {f : Addr} {fd body ns' gs' first e env} {args : List PySem.Expr} {Q : Value → Sg → Prop} (hf : FnAt c.w f fd body ns' gs')
    (H : WP c σ (spliced (backTo pos (starEach (e :: args) env))) (fun vs σ₁ => WP c σ₁ (PySem.call (.ref f) (first ++ vs) []) Q)) (he : hPlain e = true := by with_unfolding_all rfl) : WP c σ (callWith pos (.ref f) first (backTo pos (starEach (e :: args) env)) []) Q := by
  obtain ⟨oc, od, osl, ho⟩ := hf.here
  refine ⟨fun A h tk R S p₀ => ?_⟩
  refine callWith_function (o := ⟨oc, od, .func fd, osl⟩) (fd := fd) (wpAny_mono (WP.args1 (Q := fun a σ₁ => WP c σ₁ (PySem.call (.ref f) (first ++ a.pos) a.kw) Q) R S p₀ he H) ?_ fun _ _ e => e)
  refine Post.thru ?_
  rintro a h1 tk1 σ1 S1 p1 H1
  exact ⟨⟨S1.base.k _ _ ho, rfl⟩, H1.run A h1 tk1 R S1 p1⟩
theorem WP.cwFn0 {f : Addr} {fd body ns' gs' first env} {Q : Value → Sg → Prop} (hf : FnAt c.w f fd body ns' gs')
    (H : WP c σ (PySem.call (.ref f) first []) Q) : WP c σ (callWith pos (.ref f) first (backTo pos (starEach [] env)) []) Q := by
  obtain ⟨oc, od, osl, ho⟩ := hf.here
  refine ⟨fun A h tk R S p₀ => ?_⟩
  refine callWith_function (o := ⟨oc, od, .func fd, osl⟩) (fd := fd) (PyProof.Rows.evalArgs_none ?_)
  refine ⟨⟨S.base.k _ _ ho, rfl⟩, ?_⟩
  rw [List.append_nil]
  exact H.run A h tk R S p₀
theorem WP.cwB {id : String} {first e env} {args : List PySem.Expr} {Q : Value → Sg → Prop}
    (H : WP c σ (spliced (backTo pos (starEach (e :: args) env))) (fun vs σ₁ => WP c σ₁ (PySem.call (.builtin id) (first ++ vs) []) Q)) (he : hPlain e = true := by with_unfolding_all rfl) (hp : (e :: args).all hPlain = true := by with_unfolding_all rfl) : WP c σ (callWith pos (.builtin id) first (backTo pos (starEach (e :: args) env)) []) Q := by
  refine ⟨fun A h tk R S p₀ => ?_⟩
  refine callWith_builtin (backTo_none hp) (wpAny_mono (WP.args1 (Q := fun a σ₁ => WP c σ₁ (PySem.call (.builtin id) (first ++ a.pos) a.kw) Q) R S p₀ he H) ?_ fun _ _ e => e)
  refine Post.thru ?_
  rintro a h1 tk1 σ1 S1 p1 H1
  exact H1.run A h1 tk1 R S1 p1
theorem WP.cwB_0 {id : String} {e env} {args : List PySem.Expr} {Q : Value → Sg → Prop}
    (H : WP c σ (spliced (backTo pos (starEach (e :: args) env))) (fun vs σ₁ => WP c σ₁ (PySem.call (.builtin id) vs []) Q)) (he : hPlain e = true := by with_unfolding_all rfl) (hp : (e :: args).all hPlain = true := by with_unfolding_all rfl) : WP c σ (callWith pos (.builtin id) [] (backTo pos (starEach (e :: args) env)) []) Q := .cwB H he hp
theorem WP.cwB_1 {id : String} {o : Value} {e env} {args : List PySem.Expr} {Q : Value → Sg → Prop}
    (H : WP c σ (spliced (backTo pos (starEach (e :: args) env))) (fun vs σ₁ => WP c σ₁ (PySem.call (.builtin id) (o :: vs) []) Q)) (he : hPlain e = true := by with_unfolding_all rfl) (hp : (e :: args).all hPlain = true := by with_unfolding_all rfl) : WP c σ (callWith pos (.builtin id) [o] (backTo pos (starEach (e :: args) env)) []) Q := .cwB H he hp
theorem WP.cwF_0 {f : Addr} {fd body ns' gs' e env} {args : List PySem.Expr} {Q : Value → Sg → Prop} (hf : FnAt c.w f fd body ns' gs')
    (H : WP c σ (spliced (backTo pos (starEach (e :: args) env))) (fun vs σ₁ => WC c σ₁ (.call (.ref f) ⟨vs, []⟩) Q)) (he : hPlain e = true := by with_unfolding_all rfl) : WP c σ (callWith pos (.ref f) [] (backTo pos (starEach (e :: args) env)) []) Q := .cwFn hf (H.mono fun _ _ h => .callC h) he
theorem WP.cwF_1 {f : Addr} {fd body ns' gs' o e env} {args : List PySem.Expr} {Q : Value → Sg → Prop} (hf : FnAt c.w f fd body ns' gs')
    (H : WP c σ (spliced (backTo pos (starEach (e :: args) env))) (fun vs σ₁ => WC c σ₁ (.call (.ref f) ⟨o :: vs, []⟩) Q)) (he : hPlain e = true := by with_unfolding_all rfl) : WP c σ (callWith pos (.ref f) [o] (backTo pos (starEach (e :: args) env)) []) Q := .cwFn hf (H.mono fun _ _ h => .callC h) he
theorem WP.cwB0 {id : String} {first env} {Q : Value → Sg → Prop}
    (H : WP c σ (PySem.call (.builtin id) first []) Q) : WP c σ (callWith pos (.builtin id) first (backTo pos (starEach [] env)) []) Q := by
  refine ⟨fun A h tk R S p₀ => ?_⟩
  refine callWith_builtin rfl (PyProof.Rows.evalArgs_none ?_)
  rw [List.append_nil]
  exact H.run A h tk R S p₀
end
end Mine
end
section
set_option genInjectivity false
set_option genSizeOf false
set_option genCtorIdx false
set_option bootstrap.genMatcherCode false
open PySem PySem.W PyProof.Rows PySem.Calls PySem.Spec
set_option maxRecDepth 100000
set_option maxHeartbeats 8000000
set_option tactic.hygienic false
namespace Mine
section
variable {α β : Type} {c : Cx} {σ : Sg} {ns : List Str} {gs : List (Str × Value)} {pos : Pos} {x y z : Str} {t u v : Tok} {Q : Value → Sg → Prop} {env : Env}
  {qn qb qc : Sg → Prop} {qr : Value → Sg → Prop}

inductive Kn (c : Cx) (σ : Sg) (a : Addr) (p : Ob) : Prop
  | old (o : Obj) (e : c.h₀.get? a = some o) (hp : p o) : Kn c σ a p
  | led (m : LedAt a p σ.news) : Kn c σ a p
theorem St.kn {h : Heap} {a p} (Z : St c σ h) (k : Kn c σ a p) : ∃ o, h.get? a = some o ∧ p o := by
  cases k with
  | old o e hp => exact ⟨o, Z.keep _ _ e, hp⟩
  | led m => exact Z.get m
theorem Kn.mono {a p} {σ' : Sg} (k : Kn c σ a p) (hs : ∀ q ∈ σ.news, q ∈ σ'.news) : Kn c σ' a p := by
  cases k with
  | old o e hp => exact .old o e hp
  | led m => exact .led (.of_mem (hs _ m.mem))
theorem Kn.up {c' : Cx} {a p} {σ' : Sg} (k : Kn c σ a p) (h1 : ∀ b o, c.h₀.get? b = some o → c'.h₀.get? b = some o) (h2 : ∀ q ∈ σ.news, ∃ o, c'.h₀.get? q.1 = some o ∧ q.2 o) : Kn c' σ' a p := by
  cases k with
  | old o e hp => exact .old o (h1 _ _ e) hp
  | led m => obtain ⟨o, e, hp⟩ := h2 _ m.mem; exact .old o e hp
theorem St.isList {h : Heap} {a vs} (Z : St c σ h) (k : Kn c σ a (lst vs)) : h.IsList a vs.toArray := by
  obtain ⟨o, ho, n, rfl⟩ := Z.kn k
  exact ⟨_, ho, rfl, n, rfl⟩
theorem St.plainList {h : Heap} {a vs} (Z : St c σ h) (k : Kn c σ a (lst vs)) : h.PlainList a vs.toArray := by
  obtain ⟨o, ho, n, rfl⟩ := Z.kn k
  exact ⟨n, ho⟩
theorem lst_of {h : Heap} {a vs} (k : h.PlainList a vs) : ∃ o, h.get? a = some o ∧ lst vs.toList o := by
  obtain ⟨n, ho⟩ := k
  exact ⟨_, ho, n, rfl⟩

theorem St.add {h h' : Heap} {D : Addr} {p : Ob} (Z : St c σ h) (hk : ∀ b o, h.get? b = some o → h'.get? b = some o) (hD : h.get? D = none) (ho : ∃ o, h'.get? D = some o ∧ p o) : St c ⟨σ.vs, (D, p) :: σ.news⟩ h' := by
  have Z' := Z.ext hk
  obtain ⟨oL, _, _, hL, _⟩ := Z.fr.ns
  refine ⟨Z'.fr, fun q hq => ?_, List.nodup_cons.mpr ⟨fun hm => ?_, Z.nd⟩⟩
  · rcases List.mem_cons.mp hq with rfl | hq
    · refine ⟨ho, fun e => ?_, ?_⟩
      · dsimp only at e; rw [e, hL] at hD; cases hD
      · cases e : c.h₀.get? D with
        | none => rfl
        | some o => rw [Z.keep _ _ e] at hD; cases hD
    · exact Z'.nw q hq
  · obtain ⟨q, hq, e⟩ := List.mem_map.mp hm
    obtain ⟨⟨o', h1, _⟩, _⟩ := Z.nw q hq
    rw [e, hD] at h1; cases h1

structure ItOk (c : Cx) (it : Nat → Ob) (n : Nat) (val : Nat → Value → Prop) (side : Sg → Prop) : Prop where
  next : ∀ i A h tk I σ, Room A c.dp c.un → St c ⟨σ.vs, (I, it i) :: σ.news⟩ h → 0 < tk → side σ → i < n →
    wpAny (model PR c.w) A (pyNext (.ref I)) (fun r s' => ∃ v, r = some v ∧ val i v ∧ Post0 c (fun _ σ' => σ' = ⟨σ.vs, (I, it (i + 1)) :: σ.news⟩) () s') NoE ⟨h, c.g, c.d, tk, c.os⟩
  stop : ∀ A h tk I σ, Room A c.dp c.un → St c ⟨σ.vs, (I, it n) :: σ.news⟩ h → 0 < tk → side σ →
    wpAny (model PR c.w) A (pyNext (.ref I)) (fun r s' => r = none ∧ Post0 c (fun _ σ' => σ' = σ) () s') NoE ⟨h, c.g, c.d, tk, c.os⟩
  own : ∀ i o, it i o → ∃ T, o.cls = .type T ∧ ["enumerate", "zip", "dict_itemiterator", "dict_reverseitemiterator", "odict_iterator", "itertools.zip_longest", "itertools.pairwise"].contains T = false

theorem ItOk.go {c : Cx} {it : Nat → Ob} {n : Nat} {val : Nat → Value → Prop} {side : Sg → Prop} (ok : ItOk c it n val side) {i : Nat} {A : Around} {h : Heap} {tk : Nat} {I : Addr} {σ : Sg} {Q : Option Value → Shared → Prop} {E : Value → Shared → Prop} (R : Room A c.dp c.un) (Z : St c ⟨σ.vs, (I, it i) :: σ.news⟩ h) (p : 0 < tk) (hs : side σ) (hlt : i < n)
    (k : ∀ v h1 tk1, 0 < tk1 → val i v → St c ⟨σ.vs, (I, it (i + 1)) :: σ.news⟩ h1 → Q (some v) ⟨h1, c.g, c.d, tk1, c.os⟩) : wpAny (model PR c.w) A (pyNext (.ref I)) Q E ⟨h, c.g, c.d, tk, c.os⟩ := by
  refine wpAny_mono (wpAny_toks_of (n := 1) p (ok.next i A h tk I σ R Z p hs hlt)) ?_ (fun _ _ e => e.2.elim)
  rintro r _ ⟨p1, v, rfl, hv, h1, tk1, σ1, rfl, Z1, rfl⟩
  exact k v h1 tk1 p1 hv Z1
theorem ItOk.fin {c : Cx} {it : Nat → Ob} {n : Nat} {val : Nat → Value → Prop} {side : Sg → Prop} (ok : ItOk c it n val side) {A : Around} {h : Heap} {tk : Nat} {I : Addr} {σ : Sg} {Q : Option Value → Shared → Prop} {E : Value → Shared → Prop} (R : Room A c.dp c.un) (Z : St c ⟨σ.vs, (I, it n) :: σ.news⟩ h) (p : 0 < tk) (hs : side σ)
    (k : ∀ h1 tk1, 0 < tk1 → St c σ h1 → Q none ⟨h1, c.g, c.d, tk1, c.os⟩) : wpAny (model PR c.w) A (pyNext (.ref I)) Q E ⟨h, c.g, c.d, tk, c.os⟩ := by
  refine wpAny_mono (wpAny_toks_of (n := 1) p (ok.stop A h tk I σ R Z p hs)) ?_ (fun _ _ e => e.2.elim)
  rintro r _ ⟨p1, rfl, h1, tk1, σ1, rfl, Z1, rfl⟩
  exact k h1 tk1 p1 Z1
theorem wpAny_letOwned {A h tk} {I : Addr} {o : Obj} {T : String} (target : PySem.Expr) (v : Value) {Q : Unit → Shared → Prop} {E : Value → Shared → Prop} (ho : h.get? I = some o) (hc : o.cls = .type T)
    (hT : ["enumerate", "zip", "dict_itemiterator", "dict_reverseitemiterator", "odict_iterator", "itertools.zip_longest", "itertools.pairwise"].contains T = false) (hq : Q () ⟨h, c.g, c.d, tk, c.os⟩) :
    wpAny (model PR c.w) A (letOwnedTupleGo target (.ref I) v) Q E ⟨h, c.g, c.d, tk, c.os⟩ := by
  have core : ∀ a : Addr, wpAny (model PR c.w) A (load I >>= fun o => match o.cls, o.data with
      | .type n, .fields vs => if ["enumerate", "zip", "dict_itemiterator", "dict_reverseitemiterator", "odict_iterator", "itertools.zip_longest", "itertools.pairwise"].contains n && vs[0]? == some (rawInt a) then (do
          rule "for.unpacks-the-owned-tuple"
          updateField I 0 .none) else pure ()
      | _, _ => pure ()) Q E ⟨h, c.g, c.d, tk, c.os⟩ := fun a => by
    refine wpAny_bind (wpAny_load ho ?_)
    obtain ⟨cls, dict, data, slots⟩ := o
    cases hc
    cases data with
    | fields vs =>
      show wpAny _ _ (if ["enumerate", "zip", "dict_itemiterator", "dict_reverseitemiterator", "odict_iterator", "itertools.zip_longest", "itertools.pairwise"].contains T && vs[0]? == some (rawInt a) then _ else _) _ _ _
      rw [hT, Bool.false_and]
      exact wpAny_pure hq
    | _ => exact wpAny_pure hq
  cases target with
  | Tuple elts k p => cases v with
    | ref a => exact core a
    | _ => exact wpAny_pure hq
  | List elts p => cases v with
    | ref a => exact core a
    | _ => exact wpAny_pure hq
  | _ => exact wpAny_pure hq

inductive EndTurn (I : Addr) (p : Ob) (K : Sg → Prop) (σ : Sg) : Prop
  | mk (l : Led) (h : ((I, p) :: l).Sublist σ.news) (k : K ⟨σ.vs, l⟩)

structure ForOk (c : Cx) (env : Env) (target : PySem.Expr) (body : List Stmt) (it : Nat → Ob) (n : Nat) (val : Nat → Value → Prop) (side : Sg → Prop) (Inv : Nat → Sg → Prop) (qn : Sg → Prop) (qr : Value → Sg → Prop) : Prop where
  ok : ItOk c it n val side
  side : ∀ i σ, Inv i σ → side σ
  turn : ∀ i v I σ, i < n → val i v → Inv i σ →
    WP c ⟨σ.vs, (I, it (i + 1)) :: σ.news⟩ (assign target env v) (fun _ σ₁ => WLN c σ₁ env body (EndTurn I (it (i + 1)) (Inv (i + 1))) qr qn (EndTurn I (it (i + 1)) (Inv (i + 1))))
  done : ∀ σ, Inv n σ → qn σ

inductive ForK (c : Cx) (I : Addr) (it : Nat → Ob) (n : Nat) (Inv : Nat → Sg → Prop) : Nat → Shared → Prop
  | mk (h : Heap) (tk : Nat) (σ : Sg) (i : Nat) (p₀ : 0 < tk) (hi : i ≤ n) (Z : St c ⟨σ.vs, (I, it i) :: σ.news⟩ h) (hI : Inv i σ) : ForK c I it n Inv (n - i) ⟨h, c.g, c.d, tk, c.os⟩
theorem codeFor {target body it n val side Inv} {A h tk I} (F : ForOk c env target body it n val side Inv qn qr) (R : Room A c.dp c.un) (Z : St c ⟨σ.vs, (I, it 0) :: σ.news⟩ h) (p₀ : 0 < tk) (h0 : Inv 0 σ) :
    codeAny (model PR c.w) A (.forLoop target (.ref I) body [] env) (fun r s' => match r with | .ok f => Post c (FQ qn qr (fun _ => False) (fun _ => False)) f s' | .error e => cameBackBy (model PR c.w) A env NoE e s') ⟨h, c.g, c.d, tk, c.os⟩ := by
  refine codeAny_forLoop_any (ForK c I it n Inv) ?_ n (.mk h tk σ 0 p₀ (Nat.zero_le _) Z h0)
  intro k s K
  induction K with | mk h tk σ i p₀ hi Z hI => ?_
  have hs := F.side i σ hI
  by_cases hlt : i < n
  · refine F.ok.go R Z p₀ hs hlt fun v h1 tk1 p1 hv Z1 => ?_
    obtain ⟨oI, hoI, hio⟩ := Z1.get (a := I) (p := it (i + 1)) .head
    obtain ⟨T, hT1, hT2⟩ := F.ok.own _ _ hio
    refine wpAny_letOwned target v hoI hT1 hT2 ?_
    refine (F.turn i v I σ hlt hv hI).runK R Z1 p1 ?_
    rintro _ h2 tk2 σ2 Z2 p2 H2
    refine H2.wl.runK R Z2 p2 ?_
    rintro f h3 tk3 σ3 Z3 p3 H3
    cases f with
    | next =>
      obtain ⟨l, hl, hK⟩ := H3
      exact ⟨n - (i + 1), Nat.sub_lt_sub_left hlt (Nat.lt_succ_self i), .mk h3 tk3 ⟨σ3.vs, l⟩ (i + 1) p3 hlt (Z3.sub hl) hK⟩
    | cont =>
      obtain ⟨l, hl, hK⟩ := H3
      exact ⟨n - (i + 1), Nat.sub_lt_sub_left hlt (Nat.lt_succ_self i), .mk h3 tk3 ⟨σ3.vs, l⟩ (i + 1) p3 hlt (Z3.sub hl) hK⟩
    | brk => exact ⟨h3, tk3, σ3, rfl, Z3, p3, H3⟩
    | ret v => exact ⟨h3, tk3, σ3, rfl, Z3, p3, H3⟩
  · have hin : i = n := Nat.le_antisymm hi (Nat.not_lt.mp hlt)
    subst hin
    exact F.ok.fin R Z p₀ hs fun h1 tk1 p1 Z1 => wpAny_execs_nil ⟨h1, tk1, σ, rfl, Z1, p1, F.done _ hI⟩

structure IterOf (c : Cx) (σ : Sg) (v : Value) (it : Nat → Ob) : Prop where
  run : ∀ A h tk, Room A c.dp c.un → St c σ h → 0 < tk → wpAny (model PR c.w) A (pyIter v) (fun r s' => ∃ I, r = .ref I ∧ Post0 c (fun _ σ' => σ' = ⟨σ.vs, (I, it 0) :: σ.news⟩) () s') NoE ⟨h, c.g, c.d, tk, c.os⟩

theorem WS.forIt {target iter body} (H : WP c σ (eval iter env) (fun v σ₁ => Ex5 fun it n val side Inv => A3 (IterOf c σ₁ v it) (ForOk c env target body it n val side Inv qn qr) (Inv 0 σ₁))) (hfs : ∀ x, foldedSetIterable iter env x = Pure.pure x := by intro _; rfl) :
    WS c σ env (.For target iter body [] pos) qn qr qb qc := by
  refine ⟨fun A h tk R S p₀ => ?_⟩
  refine wpAny_For (H.runK R S p₀ ?_) hfs
  rintro v h1 tk1 σ1 S1 p1 ⟨it, n, val, side, Inv, HI, HF, H0⟩
  refine wpAny_mono (wpAny_toks_of (n := 1) p1 (HI.run A h1 tk1 R S1 p1)) ?_ fun _ _ e => e.2
  rintro r _ ⟨p2, I, rfl, h2, tk2, σ2, rfl, S2, rfl⟩
  refine codeAny_mono (codeFor HF R S2 p2 H0) ?_
  intro r s' hr
  cases r with
  | error e => exact hr
  | ok f =>
    refine Post.mono (fun f' σ' q => ?_) hr
    cases f' with
    | next => exact q
    | ret v => exact q
    | brk => exact q.elim
    | cont => exact q.elim

theorem St.drop {h h' : Heap} {I p vs l} (Z : St c ⟨vs, (I, p) :: l⟩ h) (he : Heap.ExtBut I h h') : St c ⟨vs, l⟩ h' := by
  have zI := Z.nw (I, p) (.head _)
  have nd := List.nodup_cons.mp Z.nd
  obtain ⟨oL, es, ep, hL, r⟩ := Z.fr.ns
  refine ⟨⟨⟨oL, es, ep, he _ _ (Ne.symm zI.2.1) hL, r⟩, fun b o e => he _ _ (fun q => ?_) (Z.fr.keep _ _ e), Z.fr.above⟩, fun q hq => ?_, nd.2⟩
  · rw [q, zI.2.2] at e; cases e
  · obtain ⟨⟨o', y1, y2⟩, y3⟩ := Z.nw q (.tail _ hq)
    exact ⟨⟨o', he _ _ (fun e => nd.1 (List.mem_map.mpr ⟨q, hq, e⟩)) y1, y2⟩, y3⟩
theorem St.step {h h' : Heap} {I p p' vs l} (Z : St c ⟨vs, (I, p) :: l⟩ h) (hs : Heap.SameBut I h h') (ho : ∃ o, h'.get? I = some o ∧ p' o) : St c ⟨vs, (I, p') :: l⟩ h' := St.upd (σ := ⟨vs, (I, p) :: l⟩) Z .head hs ho

noncomputable def lstIt (l : Addr) (i : Nat) (o : Obj) : Prop := o.cls = .type "list_iterator" ∧ o.data = .fields #[.ref l, .int i 0]
theorem ItOk.list {l : Addr} {vs : List Value} : ItOk c (lstIt l) vs.length (fun i v => vs[i]? = some v) (fun σ => Kn c σ l (lst vs)) where
  next := fun i A h tk I σ R Z p₀ hk hi => by
    have hit : h.IsListIter I l i := Z.get (a := I) .head
    have hl : h.IsList l vs.toArray := Z.isList (hk.mono fun q hq => .tail _ hq)
    refine wpAny_pyNext_list_item hit hl (x := vs[i]) (by simp [hi]) fun h' hit' hs' => ?_
    exact ⟨_, rfl, by simp [hi], h', tk, _, rfl, Z.step hs' hit', rfl⟩
  stop := fun A h tk I σ R Z p₀ hk => by
    have hit : h.IsListIter I l vs.length := Z.get (a := I) .head
    have hl : h.IsList l vs.toArray := Z.isList (hk.mono fun q hq => .tail _ hq)
    exact wpAny_pyNext_list_end R.hd hit hl (by simp) fun h' he' => ⟨rfl, h', tk, σ, rfl, Z.drop he', rfl⟩
  own := fun i o ho => ⟨_, ho.1, by decide⟩
theorem IterOf.list {l : Addr} {vs : List Value} (k : Kn c σ l (lst vs)) : IterOf c σ (.ref l) (lstIt l) :=
  ⟨fun _ h _ _ Z _ => wpAny_pyIter_list (Z.isList k) ⟨_, rfl, _, _, _, rfl, Z.push _ (lstIt l 0) ⟨rfl, rfl⟩ rfl, rfl⟩⟩

noncomputable def strIt (K : String) (x : Str) (t : Tok) (i : Nat) (o : Obj) : Prop := o.cls = .type K ∧ o.data = .fields #[.str x t, .int i 0]
theorem WP.asg {e : PySem.Expr} {x : Str} {p : Pos} {v : Value} {Q : Unit → Sg → Prop} (H : WP c σ (storeName env x v) Q) : WP c σ (assign (.Name x p) env v) Q :=
  ⟨fun A h tk R S p₀ => wpAny_assign_Name (H.run A h tk R S p₀)⟩
theorem WP.inOrder0 {xs : List Value} {Q : Unit → Sg → Prop} (H : Q () σ) : WP c σ (assignInOrder [] xs) Q := .of0 fun _ _ _ _ S _ => assignInOrder_nil ⟨_, _, _, rfl, S, H⟩
theorem WP.inOrder {f : Value → Sem Unit} {fs : List (Value → Sem Unit)} {v : Value} {xs : List Value} {Q : Unit → Sg → Prop} (H : WP c σ (f v) (fun _ σ₁ => WP c σ₁ (assignInOrder fs xs) Q)) : WP c σ (assignInOrder (f :: fs) (v :: xs)) Q :=
  ⟨fun A h tk R S p₀ => assignInOrder_cons (wpAny_mono (H.run A h tk R S p₀) (fun _ _ p => p.go R) fun _ _ e => e)⟩
theorem WP.unpackL {elts : List PySem.Expr} {k : Nat} {l : Addr} {items : List Value} {Q : Unit → Sg → Prop} (kn : Kn c σ l (lst items)) (hn : (assignEach elts env).length = items.length) (hstar : (assignEach elts env).findIdx? (·.1) = none)
    (H : WP c σ (assignInOrder ((assignEach elts env).map (·.2)) items) Q) : WP c σ (assign (.Tuple elts k pos) env (.ref l)) Q := by
  refine ⟨fun A h tk R Z p₀ => ?_⟩
  have hl := Z.isList kn
  rw [arm_assign_Tuple]
  refine wpAny_bind (wpAny_standAt ?_)
  unfold unpack
  have e : (assignEach elts env).length = items.toArray.size := by simpa using hn
  rw [e, hstar]
  refine wpAny_bind (wpAny_holding (kun_itemsOf R.hd hl fun h' he => ?_))
  rw [List.toList_toArray]
  exact H.run A h' tk R (Z.ext fun b o q => he b o (Nat.ne_of_lt (Heap.lt_size q)) q) p₀
theorem WP.unpackL4 {x1 x2 x3 x4 : Str} {p1 p2 p3 p4 : Pos} {k : Nat} {l : Addr} {v1 v2 v3 v4 : Value} {Q : Unit → Sg → Prop} (kn : Kn c σ l (lst [v1, v2, v3, v4]))
    (H : WP c σ (storeName env x1 v1) (fun _ σ₁ => WP c σ₁ (storeName env x2 v2) (fun _ σ₂ => WP c σ₂ (storeName env x3 v3) (fun _ σ₃ => WP c σ₃ (storeName env x4 v4) Q)))) :
    WP c σ (assign (.Tuple [.Name x1 p1, .Name x2 p2, .Name x3 p3, .Name x4 p4] k pos) env (.ref l)) Q :=
  .unpackL kn rfl rfl (.inOrder (.asg (e := .Name x1 p1) (H.mono fun _ _ H => .inOrder (.asg (e := .Name x1 p1) (H.mono fun _ _ H => .inOrder (.asg (e := .Name x1 p1) (H.mono fun _ _ H => .inOrder (.asg (e := .Name x1 p1) (H.mono fun _ _ H => .inOrder0 H)))))))))
end
end Mine
end
section
set_option genInjectivity false
set_option genSizeOf false
set_option genCtorIdx false
set_option bootstrap.genMatcherCode false
open PySem PySem.W PyProof.Rows PySem.Calls PySem.Spec
set_option maxRecDepth 100000
set_option maxHeartbeats 8000000
set_option tactic.hygienic false
namespace Mine
section
variable {α β : Type} {c : Cx} {σ : Sg} {ns : List Str} {gs : List (Str × Value)} {pos : Pos} {x y z : Str} {a b l : T} {t u v : Tok} {Q : Value → Sg → Prop} {env : Env}
theorem size_ok {n : Nat} (h : n ≤ 4000000) : n ≤ sizeLine := by rw [sizeLine_eq]; lia
theorem WP.kS {k} (e : x = S l) (H : ∀ t, Q (.str (S l) t) σ) : WP c σ (eval (.Constant (.str x) k pos) env) Q := .kStr (e ▸ H)
theorem WP.add_str (hz : a.length + b.length ≤ 4000000) (H : ∀ t', Q (.str (S (a ++ b)) t') σ) : WP c σ (binaryOp .Add (.str (S a) t) (.str (S b) u)) Q :=
  .of0 fun _ _ _ _ Z _ => PyProof.Rows.add_str (fun t' tk => ⟨_, tk, _, rfl, Z, by rw [S_append]; exact H t'⟩) (by rw [S_len, S_len]; exact size_ok hz)
theorem WP.iadd_str (hz : a.length + b.length ≤ 4000000) (H : ∀ t', Q (.str (S (a ++ b)) t') σ) : WP c σ (inplaceOp .Add (.str (S a) t) (.str (S b) u)) Q :=
  .of0 fun _ _ _ _ Z _ => PyProof.Rows.iadd_str (fun t' tk => ⟨_, tk, _, rfl, Z, by rw [S_append]; exact H t'⟩) (by rw [S_len, S_len]; exact size_ok hz)
theorem WP.eq_str (H : Q (.bool (decide (a = b))) σ) : WP c σ (compareOp .Eq (.str (S a) t) (.str (S b) u)) Q := .of0 fun _ _ _ _ Z _ => PyProof.Rows.eq_str ⟨_, _, _, rfl, Z, by rw [S_beq]; exact H⟩
theorem WP.ne_str (H : Q (.bool (!decide (a = b))) σ) : WP c σ (compareOp .NotEq (.str (S a) t) (.str (S b) u)) Q := .of0 fun _ _ _ _ Z _ => PyProof.Rows.ne_str ⟨_, _, _, rfl, Z, by rw [S_bne]; exact H⟩
theorem WP.tS {Q : Bool → Sg → Prop} (hx : l.length ≤ 4000000) (H : Q (!decide (l = [])) σ) : WP c σ (truthy (.str (S l) t)) Q :=
  .of0 fun _ _ _ _ Z _ => SBL.truthy (by rw [S_len]; lia) ⟨_, _, _, rfl, Z, by
    have : (((S l).length : Int) != 0) = !decide (l = []) := by
      rw [S_len]; cases l <;> simp <;> lia
    rw [this]; exact H⟩
theorem WP.gmS {name : Str} {id : String} {pl : Sem Bool} {Q : Value × List Value → Sg → Prop} (slot : Slot "str" name id) (ty : typeOf (.builtin id) = pure (.type "method_descriptor")) (H : Q (.builtin id, [.str x t]) σ) : WP c σ (getMethod (.str x t) name pl) Q :=
  .of0 fun _ _ _ _ Z _ => by
    with_reducible refine getMethod_builtin (typeIs_str _ x t) PySem.F.plainAttrs_str slot ty (fun _ e => by cases e) ?_
    exact ⟨_, _, _, rfl, Z, H⟩
theorem WP.sp2S {k1 k2 p1 p2} {Q : List Value → Sg → Prop} (e1 : x = S a) (e2 : y = S b) (H : ∀ u v : Tok, u ≠ 0 → v ≠ 0 → u ≠ v → Q [.str (S a) u, .str (S b) v] σ) : WP c σ (spliced (backTo pos (starEach [.Constant (.str x) k1 p1, .Constant (.str y) k2 p2] env))) Q :=
  .of0 fun _ _ tk _ Z p => by
    refine spliced_more (Calls.Constant_str (spliced_more (Calls.Constant_str (spliced_none ?_))))
    refine ⟨_, _, _, rfl, Z, ?_⟩
    rw [e1, e2]
    exact H tk (tk + 1) (Nat.ne_of_gt p) (Nat.succ_ne_zero _) (Nat.ne_of_lt (Nat.lt_succ_self _))
theorem WP.replace {d : Nat} (hu : u ≠ 0) (hv : v ≠ 0) (huv : u ≠ v) (hyz : decide ([d] = b) = false) (hx : a.length ≤ 1048576) (hz : b.length ≤ 14) (H : ∀ t', Q (.str (S (replT d b a)) t') σ) : WP c σ (PySem.call (.builtin "str.replace") [.str (S a) t, .str (S [d]) u, .str (S b) v] []) Q :=
  .of0 fun _ _ _ _ Z _ => SC.replaceW hu hv huv (by rw [S_beq]; exact hyz) (by rw [S_len]; exact hx) (by rw [S_len]; exact hz) fun t' k => ⟨_, k, _, rfl, Z, by rw [replace_S]; exact H t'⟩
inductive Strs : List Value → List T → Prop
  | nil : Strs [] []
  | cons {a : T} {t : Tok} {vs ts} : Strs vs ts → Strs (.str (S a) t :: vs) (a :: ts)
theorem Strs.snoc {vs : List Value} {ts : List T} (h : Strs vs ts) (a : T) (t : Tok) : Strs (vs ++ [.str (S a) t]) (ts ++ [a]) := by
  induction h with
  | nil => exact .cons .nil
  | cons _ ih => exact .cons ih
theorem Strs.app {vs vs' : List Value} {ts ts' : List T} (h : Strs vs ts) (h' : Strs vs' ts') : Strs (vs ++ vs') (ts ++ ts') := by
  induction h with
  | nil => exact h'
  | cons _ ih => exact .cons ih
theorem Strs.len {vs : List Value} {ts : List T} (h : Strs vs ts) : vs.length = ts.length := by
  induction h with
  | nil => rfl
  | cons _ ih => simp [ih]
theorem Strs.get {vs : List Value} {ts : List T} (h : Strs vs ts) {i : Nat} {v : Value} (e : vs[i]? = some v) : ∃ a t, ts[i]? = some a ∧ v = .str (S a) t := by
  induction h generalizing i with
  | nil => simp at e
  | cons _ ih =>
    cases i with
    | zero => simp at e; exact ⟨_, _, rfl, e.symm⟩
    | succ i => simp at e; exact ih e
theorem Strs.are {vs : List Value} {ts : List T} (h : Strs vs ts) : StrsAre vs (ts.map S) := by
  induction h with
  | nil => exact .nil
  | cons _ ih => exact .cons _ _ ih
noncomputable def sumLen (ts : List T) : Nat := (ts.map (·.length)).sum
theorem WP.join {d : Addr} {vs : List Value} {ts : List T} (k : Kn c σ d (lst vs)) (hs : Strs vs ts) (ha : a.length ≤ 16) (hb : sumLen ts + ts.length ≤ 1048576) (H : ∀ t', Q (.str (S (joinT a ts)) t') σ) :
    WP c σ (PySem.call (.builtin "str.join") [.str (S a) t, .ref d] []) Q :=
  .of0 fun _ _ _ _ Z _ => join_listW (Z.isList k) (by rw [List.toList_toArray]; exact hs.are) (by rw [S_len]; exact ha)
    (by rw [List.map_map, List.length_map]; have : (fun x : Str => x.length) ∘ S = fun l => l.length := by funext l; exact S_len l
        rw [this]; exact hb)
    fun t' k => ⟨_, k, _, rfl, Z, by
      have : Txt.join (S a) (ts.map S) = S (joinT a ts) := by unfold Txt.join; rw [StrLaws.glued_eq_join, join_S]
      rw [this]; exact H t'⟩

variable {i j : Int}
theorem WP.eq_int (H : Q (.bool (i == j)) σ) : WP c σ (compareOp .Eq (.int i t) (.int j u)) Q := .of0 fun _ _ _ _ Z _ => PyProof.Rows.eq_int ⟨_, _, _, rfl, Z, H⟩
theorem WP.ne_int (H : Q (.bool (i != j)) σ) : WP c σ (compareOp .NotEq (.int i t) (.int j u)) Q := .of0 fun _ _ _ _ Z _ => PyProof.Rows.ne_int ⟨_, _, _, rfl, Z, H⟩
theorem WP.lt_int (H : Q (.bool (decide (i < j))) σ) : WP c σ (compareOp .Lt (.int i t) (.int j u)) Q := .of0 fun _ _ _ _ Z _ => PyProof.Rows.lt_int ⟨_, _, _, rfl, Z, H⟩
theorem WP.gt_int (H : Q (.bool (decide (j < i))) σ) : WP c σ (compareOp .Gt (.int i t) (.int j u)) Q := .of0 fun _ _ _ _ Z _ => PyProof.Rows.gt_int ⟨_, _, _, rfl, Z, H⟩
theorem WP.le_int (H : Q (.bool (decide (i ≤ j))) σ) : WP c σ (compareOp .LtE (.int i t) (.int j u)) Q := .of0 fun _ _ _ _ Z _ => PyProof.Rows.le_int ⟨_, _, _, rfl, Z, H⟩
theorem WP.ge_int (H : Q (.bool (decide (j ≤ i))) σ) : WP c σ (compareOp .GtE (.int i t) (.int j u)) Q := .of0 fun _ _ _ _ Z _ => PyProof.Rows.ge_int ⟨_, _, _, rfl, Z, H⟩
theorem WP.add_int (H : ∀ t', Q (.int (i + j) t') σ) : WP c σ (binaryOp .Add (.int i t) (.int j u)) Q := .of0 fun _ _ _ _ Z _ => PyProof.Rows.add_int ⟨_, _, _, rfl, Z, H _⟩
theorem WP.iadd_int (H : ∀ t', Q (.int (i + j) t') σ) : WP c σ (inplaceOp .Add (.int i t) (.int j u)) Q := .of0 fun _ _ _ _ Z _ => PyProof.Rows.iadd_int ⟨_, _, _, rfl, Z, H _⟩
theorem WP.sub_int (H : ∀ t', Q (.int (i - j) t') σ) : WP c σ (binaryOp .Sub (.int i t) (.int j u)) Q := .of0 fun _ _ _ _ Z _ => PyProof.Rows.sub_int ⟨_, _, _, rfl, Z, H _⟩
theorem WP.neg_int (H : ∀ t', Q (.int (-i) t') σ) : WP c σ (unaryOp .USub (.int i t)) Q := .of0 fun _ _ _ _ Z _ => PyProof.Rows.neg_int ⟨_, _, _, rfl, Z, H _⟩
theorem WP.fdiv_int (hj : j ≠ 0) (hp : j.natAbs.log2 < 1000) (H : ∀ t', Q (.int (i.fdiv j) t') σ) : WP c σ (binaryOp .FloorDiv (.int i t) (.int j u)) Q := .of0 fun A _ _ R Z _ =>
  PyProof.Rows.floordiv_int hj ⟨_, _, _, rfl, Z, H _⟩ (Or.inl (PyProof.noPylong_of_log2 (by lia)))
theorem WP.fmod_int (hj : j ≠ 0) (H : ∀ t', Q (.int (i.fmod j) t') σ) : WP c σ (binaryOp .Mod (.int i t) (.int j u)) Q := .of0 fun A _ _ R Z _ =>
  PyProof.Rows.mod_int' hj ⟨_, _, _, rfl, Z, H _⟩
theorem WP.is_none {v : Value} (H : Q (.bool (v == .none)) σ) : WP c σ (compareOp .Is v .none) Q := .of0 fun _ _ _ _ Z _ => PySem.is_none ⟨_, _, _, rfl, Z, H⟩
theorem WP.isnot_none {v : Value} (H : Q (.bool (!(v == .none))) σ) : WP c σ (compareOp .IsNot v .none) Q := .of0 fun _ _ _ _ Z _ => PyProof.Rows.isnot_none_gen ⟨_, _, _, rfl, Z, H⟩

theorem WP.gmL {d : Addr} {vs : List Value} {name : Str} {id : String} {pl : Sem Bool} {Q : Value × List Value → Sg → Prop} (k : Kn c σ d (lst vs)) (slot : Slot "list" name id) (ty : typeOf (.builtin id) = pure (.type "method_descriptor")) (H : Q (.builtin id, [.ref d]) σ) : WP c σ (getMethod (.ref d) name pl) Q :=
  .of0 fun _ _ _ _ Z _ => by
    obtain ⟨o, ho, n, rfl⟩ := Z.kn k
    exact getMethod_builtin ⟨_, ho, rfl⟩ PySem.F.plainAttrs_list slot ty (fun a e => by cases e; exact ⟨_, ho, rfl⟩) ⟨_, _, _, rfl, Z, H⟩
theorem WP.append {d : Addr} {vs : List Value} {w : Value} {l' : Led} (hn : vs.length ≤ 4000000) (u : LedSet d (lst vs) (lst (vs ++ [w])) σ.news l') (H : Q .none ⟨σ.vs, l'⟩) : WP c σ (PySem.call (.builtin "list.append") [.ref d, w] []) Q :=
  .of0 fun _ _ _ _ Z _ => wpAny_list_append_plain (hsz := by rw [List.size_toArray]; exact size_ok hn) (Z.plainList (.led u.at)) (fun h' hl hs => ⟨h', _, _, rfl, Z.upd u hs (by rw [List.push_toArray] at hl; exact lst_of hl), H⟩)

noncomputable def compScope (scope : Scope) (x : Str) : Bool :=
  scope.kind == .function && scope.names.all (fun y => y.2 == .local && scope.names.lookup y.1 == some .local) && scope.names.lookup x == some .local && !(x == ("__debug__" : Str))
theorem compScope_cut {scope : Scope} {x : Str} (h : compScope scope x = true) : scope.kind = .function ∧ (∀ y ∈ scope.names, y.2 = .local ∧ scope.names.lookup y.1 = some .local) ∧ scope.names.lookup x = some .local ∧ (x == ("__debug__" : Str)) = false := by
  unfold compScope at h
  simp only [Bool.and_eq_true, List.all_eq_true, Bool.not_eq_true'] at h
  obtain ⟨⟨⟨h1, h2⟩, h3⟩, h4⟩ := h
  exact ⟨beq_iff_eq.mp h1, fun y hy => ⟨beq_iff_eq.mp (h2 y hy).1, beq_iff_eq.mp (h2 y hy).2⟩, beq_iff_eq.mp h3, h4⟩
theorem getComp {M : Model} {A : Around} {E : Value → Shared → Prop} {s : Shared} {scope : Scope} {x : Str} {C : Addr} {env : Env} {pos : Pos} {m} {v : Value} {Q : Value → Shared → Prop} (h : compScope scope x = true) (hn : s.heap.Ns C m) (hv : m x = some v) (hq : Q v s) :
    wpAny M A (eval (.Name x pos) (compEnv scope C env)) Q E s := by
  obtain ⟨h1, h2, h3, h4⟩ := compScope_cut h
  exact wpAny_Name (wpAny_loadName_local h1 h3 hn hv hq) h4
theorem strs_of_signs : ∀ (l : T) (vs : List Value), vs.length = l.length → (∀ j v, vs[j]? = some v → SignAt (S l) j v) → Strs vs (l.map fun d => [d])
  | [], [], _, _ => .nil
  | d :: l, v :: vs, hl, h => by
    obtain ⟨d', u, hd, rfl⟩ := h 0 v rfl
    have e : d' = d := by simpa [S] using hd.symm
    subst e
    refine .cons (a := [d']) (strs_of_signs l vs (by simpa using hl) fun j v hj => ?_)
    obtain ⟨d2, u2, h2, rfl⟩ := h (j + 1) v (by simpa using hj)
    exact ⟨d2, u2, by simpa [S] using h2, rfl⟩
  | [], _ :: _, hl, _ => by simp at hl
  | _ :: _, [], hl, _ => by simp at hl
theorem WP.compStr {elt : PySem.Expr} {itx : Str} {x : Str} {px p1 : Pos} {scope : Scope} (F : Value → Value → Prop) (hs : compScope scope x = true)
    (H : WP c σ (eval (.Name itx p1) env) (fun v σ₁ => Ex2 fun l t => A4 (v = .str (S l) t) (l.length ≤ 4000000) ((∀ A C d u s m, s.heap.Ns C m → m x = some (.str (S [d]) u) → d ∈ l → wpAny (model PR c.w) A (eval elt (compEnv scope C env)) (fun y s₄ => F (.str (S [d]) u) y ∧ Keeps s s₄) NoE s)) ((∀ D ys, (∃ vs, Paired F vs ys ∧ Strs vs (l.map fun d => [d])) → Q (.ref D) ⟨σ₁.vs, (D, lst ys) :: σ₁.news⟩)))) :
    WP c σ (eval (.ListComp elt [⟨.Name x px, .Name itx p1, [], 0⟩] scope pos) env) Q := by
  obtain ⟨h1, h2, h3, h4⟩ := compScope_cut hs
  refine .of0 fun A h tk R Z p₀ => ?_
  refine wpAny_ListComp_walk (fun _ => true) F (fun y hy e => by rw [(h2 y hy).1] at e; cases e) (fun y hy e => by rw [(h2 y hy).1] at e; cases e) h1 (fun y hy _ => (h2 y hy).2) h3 ?_
  refine H.runK R Z p₀ ?_
  rintro v h1' tk1 σ1 Z1 p1' ⟨l, t, rfl, hl, hel, hQ⟩
  refine wpAny_pyIter_str fun o St hW hst => ?_
  have hsz : (S l).cps.size = l.length := by simp [S]
  refine ⟨_, _, _, _, _, _, rfl, hW A R.hd, by rw [hsz]; exact size_ok hl, hst, fun b hb => by rw [List.mem_singleton.mp hb]; simp, ⟨?_, ?_⟩, ?_⟩
  · intro C i v s₃ m₃ E' hP hn hm hk ht
    exact wpAny_pure ⟨rfl, s₃.heap, s₃.toks, rfl, fun _ _ e => e⟩
  · intro C i v s₃ m₃ E' hP _ hn hm hk ht
    obtain ⟨d, u, hd, rfl⟩ := hP
    have hmem : d ∈ l := by
      have : (S l).cps = l.toArray := rfl
      rw [this] at hd
      exact List.mem_of_getElem? (by simpa using hd)
    exact wpAny_mono (hel A C d u s₃ m₃ hn hm hmem) (fun _ _ q => q) fun _ _ e => e.elim
  · intro D h' tk' ys vs hD hlD hpl hlen hP hF hk
    have hext : ∀ b o, h1'.get? b = some o → h'.get? b = some o := fun b o e => hk b o (fun hb => by
      rw [List.mem_singleton.mp hb] at e
      exact absurd (Heap.lt_size e) (Nat.lt_irrefl _)) (Heap.get?_push_of_some _ e)
    have hD' : h1'.get? D = none := by
      cases e : h1'.get? D with
      | none => rfl
      | some o' => rw [Heap.get?_push_of_some _ e] at hD; cases hD
    refine ⟨h', tk', _, rfl, Z1.add hext hD' (lst_of hpl), hQ D ys.toList ⟨vs, ?_, strs_of_signs l vs (by rw [hlen, hsz]) hP⟩⟩
    have ev : vs.filter (fun _ => true) = vs := List.filter_eq_self.mpr (by simp)
    rw [ev] at hF; exact hF
end
end Mine
end
section
set_option genInjectivity false
set_option genSizeOf false
set_option genCtorIdx false
set_option bootstrap.genMatcherCode false
open PySem PySem.W PyProof.Rows PySem.Calls PySem.Spec
set_option maxRecDepth 100000
set_option maxHeartbeats 8000000
set_option tactic.hygienic false
namespace Mine
section
variable {α β : Type} {c : Cx} {σ : Sg} {ns : List Str} {gs : List (Str × Value)} {pos : Pos} {x y z : Str} {a b l : T} {t u v : Tok} {Q : Value → Sg → Prop} {env : Env} {qn qb qc qt qf : Sg → Prop} {qr : Value → Sg → Prop} {i j : Int}
theorem WS.ExprA {e} (H : WP c σ (eval e env) (fun _ σ' => qn σ')) (hi : interactive env = false) (hs : hNoComp e = true := by with_unfolding_all rfl) : WS c σ env (.Expr e pos) qn qr qb qc := by
  refine ⟨fun A h tk R S p₀ => ?_⟩
  refine wpAny_Expr_any (H.runK R S p₀ ?_) hi (swaps_plain hs)
  rintro v h1 tk1 σ1 S1 p1 H1
  exact ⟨_, _, _, rfl, S1, p1, H1⟩
theorem WS.While {test body} (Inv : Nat → Sg → Prop) (n : Nat) (h0 : Inv n σ)
    (H : ∀ n σ₁, Inv n σ₁ → WB c σ₁ env test (fun σ₂ => WLN c σ₂ env body (fun σ' => ∃ m, m < n ∧ Inv m σ') qr qn (fun σ' => ∃ m, m < n ∧ Inv m σ')) qn) : WS c σ env (.While test body [] pos) qn qr qb qc := by
  refine ⟨fun A h tk R S p₀ => ?_⟩
  refine wpAny_While (codeAny_mono (R := fun r s' => match r with | .ok f => Post c (FQ qn qr (fun _ => False) (fun _ => False)) f s' | .error e => cameBackBy (model PR c.w) A env NoE e s') ?_ ?_)
  · refine codeAny_loop' rfl (fun k s => Ex3 fun h tk σ => A4 (s = ⟨h, c.g, c.d, tk, c.os⟩) (0 < tk) (St c σ h) (Inv k σ)) ?_ n ⟨h, tk, σ, rfl, p₀, S, h0⟩
    rintro k _ ⟨h, tk, σ, rfl, p₀, Z, hI⟩
    show wpAny _ A ((whileTurn test body [] env).onRaise (fun x => do noteFrame x env; theTreesLotGoes x)) _ _ _
    refine wpAny_noted ?_
    unfold whileTurn
    refine wpAny_bind (((H k σ hI).run _ rfl).runK R Z p₀ ?_)
    rintro b h1 tk1 σ1 Z1 p1 H1
    cases b with
    | false =>
      refine wpAny_bind (wpAny_execs_nil (wpAny_pure ?_))
      exact ⟨h1, tk1, σ1, rfl, Z1, p1, H1.2 rfl⟩
    | true =>
      refine wpAny_bind (wpAny_mono ((H1.1 rfl).wl.run A h1 tk1 R Z1 p1) ?_ fun _ _ e => e.elim)
      refine Post.thru ?_
      rintro f h2 tk2 σ2 Z2 p2 H2
      cases f with
      | next => obtain ⟨m, hm, hi⟩ := H2; exact wpAny_pure (.inl ⟨rfl, m, hm, h2, tk2, σ2, rfl, p2, Z2, hi⟩)
      | cont => obtain ⟨m, hm, hi⟩ := H2; exact wpAny_pure (.inl ⟨rfl, m, hm, h2, tk2, σ2, rfl, p2, Z2, hi⟩)
      | brk => exact wpAny_pure ⟨h2, tk2, σ2, rfl, Z2, p2, H2⟩
      | ret v => exact wpAny_pure ⟨h2, tk2, σ2, rfl, Z2, p2, H2⟩
  · intro r s' hr
    cases r with
    | error e => exact hr
    | ok f =>
      refine Post.mono (fun f' σ' q => ?_) hr
      cases f' with
      | next => exact q
      | ret v => exact q
      | brk => exact q.elim
      | cont => exact q.elim
theorem WS.forL {target iter body} (H : WP c σ (eval iter env) (fun v σ₁ => Ex3 fun (d : Addr) (vs : List Value) (Inv : List Value → Sg → Prop) => A5 (v = .ref d) (Inv vs σ₁) ((∀ rest σ', Inv rest σ' → Kn c σ' d (lst vs))) ((∀ v rest p I σ', Inv (v :: rest) σ' → WP c ⟨σ'.vs, (I, p) :: σ'.news⟩ (assign target env v) (fun _ σ₂ => WLN c σ₂ env body (EndTurn I p (Inv rest)) qr qn (EndTurn I p (Inv rest))))) ((∀ σ', Inv [] σ' → qn σ')))) (hfs : ∀ x, foldedSetIterable iter env x = Pure.pure x := by intro _; rfl) :
    WS c σ env (.For target iter body [] pos) qn qr qb qc := by
  refine .forIt (H.mono ?_) hfs
  rintro v σ₁ ⟨d, vs, Inv, rfl, h0, hk, ht, hd⟩
  refine ⟨lstIt d, vs.length, fun i v => vs[i]? = some v, fun σ => Kn c σ d (lst vs), fun i => Inv (vs.drop i), .list (hk _ _ h0), ⟨.list, fun i σ' hi => hk _ _ hi, fun i v I σ' hi hv hI => ?_, fun σ' hI => hd σ' (by rw [List.drop_length] at hI; exact hI)⟩, h0⟩
  have e : vs.drop i = v :: vs.drop (i + 1) := by
    obtain ⟨h1, h2⟩ := List.getElem?_eq_some_iff.mp hv
    rw [List.drop_eq_getElem_cons h1, h2]
  rw [e] at hI
  exact ht v (vs.drop (i + 1)) (lstIt d (i + 1)) I σ' hI
theorem WP.kX {s : String} {k} (H : ∀ t, Q (.str (S (tx s)) t) σ) : WP c σ (eval (.Constant (.str (Str.ofString s)) k pos) env) Q := .kS (tx_S s) H
theorem WP.sp2X {k1 k2 p1 p2} {s1 s2 : String} {Q : List Value → Sg → Prop} (H : ∀ u v : Tok, u ≠ 0 → v ≠ 0 → u ≠ v → Q [.str (S (tx s1)) u, .str (S (tx s2)) v] σ) : WP c σ (spliced (backTo pos (starEach [.Constant (.str (Str.ofString s1)) k1 p1, .Constant (.str (Str.ofString s2)) k2 p2] env))) Q :=
  .sp2S (tx_S s1) (tx_S s2) H
theorem WP.replaceX {p : T} {d : Nat} (hu : u ≠ 0) (hv : v ≠ 0) (huv : u ≠ v) (hp : p = [d]) (hyz : decide ([d] = b) = false) (hx : a.length ≤ 1048576) (hz : b.length ≤ 14) (H : ∀ t', Q (.str (S (replT d b a)) t') σ) : WP c σ (PySem.call (.builtin "str.replace") [.str (S a) t, .str (S p) u, .str (S b) v] []) Q := by
  subst hp; exact .replace hu hv huv hyz hx hz H
theorem WP.len_str (hx : a.length ≤ 4000000) (H : ∀ t', Q (.int (a.length : Nat) t') σ) : WP c σ (PySem.call (.builtin "len") [.str (S a) t] []) Q :=
  .of0 fun _ _ _ _ Z _ => PyProof.Rows.len_str (by rw [S_len]; lia) ⟨_, _, _, rfl, Z, by rw [S_len]; exact H _⟩
theorem lst_mk {vs : List Value} {xs : Array Value} {n : Nat} (h : xs = vs.toArray) : lst vs { cls := .type "list", dict := none, data := .seq xs n, slots := #[] } := by subst h; exact ⟨n, rfl⟩
theorem WP.len_list {d : Addr} {vs : List Value} (k : Kn c σ d (lst vs)) (hn : vs.length ≤ 4000000) (H : ∀ t', Q (.int (vs.length : Nat) t') σ) : WP c σ (PySem.call (.builtin "len") [.ref d] []) Q :=
  .of0 fun _ _ _ _ Z _ => PyProof.Rows.len_list (Z.isList k) (by rw [List.size_toArray]; lia) ⟨_, _, _, rfl, Z, by rw [List.size_toArray]; exact H _⟩
theorem WP.add_list {d e : Addr} {vs ws : List Value} (k1 : Kn c σ d (lst vs)) (k2 : Kn c σ e (lst ws)) (hn : vs.length + ws.length ≤ 4000000) (H : ∀ f, Q (.ref f) ⟨σ.vs, (f, lst (vs ++ ws)) :: σ.news⟩) : WP c σ (binaryOp .Add (.ref d) (.ref e)) Q :=
  .of0 fun _ _ _ _ Z _ => by
    obtain ⟨o1, h1, n1, rfl⟩ := Z.kn k1
    obtain ⟨o2, h2, n2, rfl⟩ := Z.kn k2
    exact PySem.P.add_list h1 h2 ⟨_, _, ⟨σ.vs, (_, lst (vs ++ ws)) :: σ.news⟩, rfl, Z.push _ _ ⟨0, by simp⟩ rfl, H _⟩ (by rw [List.size_toArray, List.size_toArray]; exact size_ok hn)
theorem WP.extend {d e : Addr} {vs ws : List Value} {l' : Led} (k2 : Kn c σ e (lst ws)) (hn : vs.length + ws.length ≤ 4000000) (u : LedSet d (lst vs) (lst (vs ++ ws)) σ.news l') (H : Q .none ⟨σ.vs, l'⟩) : WP c σ (PySem.call (.builtin "list.extend") [.ref d, .ref e] []) Q :=
  .of0 fun _ _ _ _ Z _ => by
    obtain ⟨o1, h1, n1, rfl⟩ := Z.get u.at
    obtain ⟨o2, h2, n2, rfl⟩ := Z.kn k2
    have hs : vs.toArray.size + ws.toArray.size ≤ sizeLine := by rw [List.size_toArray, List.size_toArray]; exact size_ok hn
    have hd : ¬(!vs.toArray.isEmpty && Builtin.List.listTooLong (vs.toArray.size + ws.toArray.size)) = true := by
      rw [Bool.and_eq_true]
      intro ⟨_, h⟩
      rw [List.size_toArray, List.size_toArray] at h
      unfold Builtin.List.listTooLong at h
      have := of_decide_eq_true h
      rw [sizeLine_eq] at *; lia
    refine call_meets PySem.F.slot_list_extend ⟨_, h1, rfl⟩ PySem.F.entry_list_extend (PySem.F.args_list_extend_2 _ _) (PySem.AutoSeq1.list_extend_list_list_0 d _ n1 e _ n2 hd (by lia) (by lia)) ⟨h1, h2, ?_⟩
    refine ⟨_, _, ⟨σ.vs, l'⟩, rfl, Z.upd u (Heap.SameBut.update ..) ?_, H⟩
    refine ⟨_, Heap.get?_update_self _ h1 (by rw [mapSeq_app]; rfl), ?_⟩
    rw [mapSeq_app]
    exact lst_mk (by simp)
theorem WP.pop {d : Addr} {vs : List Value} {w : Value} {l' : Led} (hn : vs.length ≤ 4000000) (u : LedSet d (lst (vs ++ [w])) (lst vs) σ.news l') (H : Q w ⟨σ.vs, l'⟩) : WP c σ (PySem.call (.builtin "list.pop") [.ref d] []) Q :=
  .of0 fun _ _ _ _ Z _ => by
    obtain ⟨o1, h1, n1, rfl⟩ := Z.get u.at
    have hs : (vs ++ [w]).toArray.size ≤ sizeLine := by rw [List.size_toArray, List.length_append, sizeLine_eq]; simp; lia
    refine call_meets PySem.F.slot_list_pop ⟨_, h1, rfl⟩ PySem.F.entry_list_pop (PySem.F.args_list_pop_1 _) (MeetsSeq.list_pop_last d _ n1 w (by simp) hs) ⟨h1, ?_⟩
    refine ⟨_, _, ⟨σ.vs, l'⟩, rfl, Z.upd u (Heap.SameBut.update ..) ?_, H⟩
    have hk : (vs ++ [w]).toArray.size - 1 < (vs ++ [w]).toArray.size := by simp
    refine ⟨_, Heap.get?_update_self _ h1 (by rw [mapSeq_erase _ _ _ hk]; rfl), ?_⟩
    rw [mapSeq_erase _ _ _ hk]
    exact lst_mk (by simp [List.eraseIdx_append_of_length_le])
theorem wp_sub {M A E s} {value slice : PySem.Expr} {o i : Value} {T id : String} {Q : Value → Shared → Prop} {w : World} (hM : M = model PR w) (hT : s.TypeIs o T)
    (hl : typeLookup (.type T) "__getitem__" = pure (some (.builtin id))) (h : wpAny M A (getItem o i) Q E s) : wpAny M A (subscriptTail value slice o i) Q E s := by
  subst hM
  unfold subscriptTail
  refine wpAny_bind ?_
  rw [getitemInPython_of_ne hT.not_modules]
  refine wpAny_bind (wpAny_specialOf hT hl ?_)
  have hs : ∃ ops, subscripted slice false o i = operate ops (getItem o i) := by
    cases slice with
    | Slice l u st p => cases st <;> exact ⟨_, rfl⟩
    | _ => exact ⟨_, rfl⟩
  obtain ⟨ops, hs⟩ := hs
  have fin : wpAny (model PR w) A (subscripted slice false o i) (fun r s₃ => wpAny (model PR w) A (letTemporaryGo value o r >>= fun _ => pure r) Q E s₃) E s := by
    rw [hs]
    exact wpAny_operating (wpAny_mono h (fun r s₃ h₃ => wpAny_bind (wpAny_letTemporaryGo (wpAny_pure h₃))) fun _ _ x => x)
  first
    | exact wpAny_pure (wpAny_bind fin)
    | exact wpAny_bind (wpAny_pure (wpAny_bind fin))
    | exact wpAny_bind fin
theorem WP.itemL {value slice} {d : Addr} {vs : List Value} {w : Value} (k : Kn c σ d (lst vs)) (h0 : 0 ≤ i) (hn : vs.length ≤ 4000000) (hx : vs[i.toNat]? = some w) (H : Q w σ) : WP c σ (subscriptTail value slice (.ref d) (.int i t)) Q :=
  .of0 fun _ _ _ _ Z _ => wp_sub rfl (Heap.IsList.typeIs (s := ⟨_, _, _, _, _⟩) (Z.isList k)) list_getitem_lookup
    (wpAny_getItem_list (Z.isList k) h0 (by
      have : i.toNat < vs.length := (List.getElem?_eq_some_iff.mp hx).1
      lia) (by simpa using hx) ⟨_, _, _, rfl, Z, H⟩)
theorem WP.itemLneg {value slice} {d : Addr} {vs : List Value} {w : Value} (k : Kn c σ d (lst vs)) (h0 : i < 0) (h1 : -(vs.length : Int) ≤ i) (hn : vs.length ≤ 4000000) (hx : vs[(i + vs.length).toNat]? = some w) (H : Q w σ) : WP c σ (subscriptTail value slice (.ref d) (.int i t)) Q :=
  .of0 fun _ _ _ _ Z _ => wp_sub rfl (Heap.IsList.typeIs (s := ⟨_, _, _, _, _⟩) (Z.isList k)) list_getitem_lookup
    (wpAny_getItem_list_neg (Z.isList k) h0 (by simpa using h1) (by lia) (by simpa using hx) ⟨_, _, _, rfl, Z, H⟩)
noncomputable def slc (l u st : Value) (o : Obj) : Prop := o.cls = .type "slice" ∧ o.data = .fields #[l, u, st]
theorem WP.pNone {Q : Value → Sg → Prop} (H : Q .none σ) : WP c σ (evalPart none env) Q := .of0 fun _ _ _ _ Z _ => wpAny_pure ⟨_, _, _, rfl, Z, H⟩
theorem WP.pSome {e : PySem.Expr} {Q : Value → Sg → Prop} (H : WP c σ (eval e env) Q) : WP c σ (evalPart (some e) env) Q := H
theorem WP.xSlice {lower upper step} {p : Pos} (H : WP c σ (evalPart lower env) (fun l σ₁ => WP c σ₁ (evalPart upper env) (fun u σ₂ => WP c σ₂ (evalPart step env) (fun st σ₃ => ∀ a, Q (.ref a) ⟨σ₃.vs, (a, slc l u st) :: σ₃.news⟩)))) : WP c σ (eval (.Slice lower upper step p) env) Q := by
  refine ⟨fun A h tk R S p₀ => ?_⟩
  refine wpAny_Slice (H.runK R S p₀ ?_)
  rintro l h1 tk1 σ1 S1 p1 H1
  refine H1.runK R S1 p1 ?_
  rintro u h2 tk2 σ2 S2 p2 H2
  refine H2.runK R S2 p2 ?_
  rintro st h3 tk3 σ3 S3 p3 H3
  exact ⟨_, _, ⟨σ3.vs, (_, slc l u st) :: σ3.news⟩, rfl, S3.push _ _ ⟨rfl, rfl⟩ rfl, p3, H3 _⟩
theorem WP.sliceL {value slice} {d I : Addr} {vs : List Value} {vl vu vt : Value} {lo hi st : Option Int} (k : Kn c σ d (lst vs)) (ks : Kn c σ I (slc vl vu vt)) (pl : IsPart vl lo) (pu : IsPart vu hi) (pt : IsPart vt st) (h0 : st ≠ some 0) (hn : vs.length ≤ 4000000)
    (H : ∀ f, Q (.ref f) ⟨σ.vs, (f, lst (slicePick vs.toArray lo hi st).toList) :: σ.news⟩) : WP c σ (subscriptTail value slice (.ref d) (.ref I)) Q :=
  .of0 fun _ _ _ _ Z _ => wp_sub rfl (Heap.IsList.typeIs (s := ⟨_, _, _, _, _⟩) (Z.isList k)) list_getitem_lookup
    (wpAny_getItem_list_slice (Z.isList k) (Z.kn ks) pl pu pt h0 ⟨_, _, ⟨σ.vs, (_, lst (slicePick vs.toArray lo hi st).toList) :: σ.news⟩, rfl, Z.push _ _ ⟨0, by simp⟩ rfl, H _⟩ (by rw [List.size_toArray]; exact size_ok hn))
theorem WP.eqL_ne {d e : Addr} {vs ws : List Value} (k1 : Kn c σ d (lst vs)) (k2 : Kn c σ e (lst ws)) (hne : vs.length ≠ ws.length) (H : Q (.bool false) σ) : WP c σ (compareOp .Eq (.ref d) (.ref e)) Q :=
  .of0 fun _ _ _ R Z _ => by
    obtain ⟨o1, h1, n1, rfl⟩ := Z.kn k1
    obtain ⟨o2, h2, n2, rfl⟩ := Z.kn k2
    exact PySem.P.eq_list_lengths h1 h2 (by simpa using hne) (by have := R.un; lia) ⟨_, _, _, rfl, Z, H⟩
theorem WP.eqL_nil {d e : Addr} (k1 : Kn c σ d (lst [])) (k2 : Kn c σ e (lst [])) (H : Q (.bool true) σ) : WP c σ (compareOp .Eq (.ref d) (.ref e)) Q :=
  .of0 fun _ _ _ R Z _ => by
    obtain ⟨o1, h1, n1, rfl⟩ := Z.kn k1
    obtain ⟨o2, h2, n2, rfl⟩ := Z.kn k2
    exact PySem.P.eq_list (e := fun _ => true) h1 h2 rfl (fun j h1 _ => absurd h1 (Nat.not_lt_zero _)) (by have := R.un; lia) ⟨_, _, _, rfl, Z, H⟩
end
end Mine
end
section
set_option genInjectivity false
set_option genSizeOf false
set_option genCtorIdx false
set_option bootstrap.genMatcherCode false
open PySem PySem.W PyProof.Rows PySem.Calls PySem.Spec
set_option maxRecDepth 100000
set_option maxHeartbeats 8000000
set_option tactic.hygienic false
namespace Mine
section
variable {α β : Type} {c : Cx} {σ : Sg} {ns : List Str} {gs : List (Str × Value)} {pos : Pos} {x y z : Str} {a b l : T} {t u v : Tok} {Q : Value → Sg → Prop} {env : Env} {qn qb qc qt qf : Sg → Prop} {qr : Value → Sg → Prop} {i j : Int}
noncomputable def SignTo (g : Nat → T) (x y : Value) : Prop := ∃ d u u', x = .str (S [d]) u ∧ y = .str (S (g d)) u'
theorem strs_paired {g : Nat → T} : ∀ {l : T} {vs ys : List Value}, Paired (SignTo g) vs ys → Strs vs (l.map fun d => [d]) → Strs ys (l.map g)
  | [], _, _, h, hs => by cases hs; cases h; exact .nil
  | d :: l, _, _, h, hs => by
    cases hs with
    | cons hs =>
      cases h with
      | cons h1 h2 =>
        obtain ⟨d', u, u', e1, rfl⟩ := h1
        have e2 := S_inj (by injection e1 : S [d] = S [d'])
        cases e2
        exact .cons (strs_paired h2 hs)
theorem WP.compStrG {elt : PySem.Expr} {itx : Str} {x : Str} {px p1 : Pos} {scope : Scope} (g : Nat → T) (hs : compScope scope x = true)
    (H : WP c σ (eval (.Name itx p1) env) (fun v σ₁ => Ex2 fun l t => A4 (v = .str (S l) t) (l.length ≤ 4000000) ((∀ A C d u s m, s.heap.Ns C m → m x = some (.str (S [d]) u) → d ∈ l → wpAny (model PR c.w) A (eval elt (compEnv scope C env)) (fun y s₄ => (∃ u', y = .str (S (g d)) u') ∧ Keeps s s₄) NoE s)) ((∀ D ys, Strs ys (l.map g) → Q (.ref D) ⟨σ₁.vs, (D, lst ys) :: σ₁.news⟩)))) :
    WP c σ (eval (.ListComp elt [⟨.Name x px, .Name itx p1, [], 0⟩] scope pos) env) Q := by
  refine WP.compStr (SignTo g) hs (H.mono ?_)
  rintro v σ₁ ⟨l, t, rfl, hl, h1, h2⟩
  refine ⟨l, t, rfl, hl, fun A C d u s m hn hm hd => wpAny_mono (h1 A C d u s m hn hm hd) (fun y s₄ h => ?_) fun _ _ e => e, fun D ys h => ?_⟩
  · obtain ⟨⟨u', e⟩, k⟩ := h
    exact ⟨⟨d, u, u', rfl, e⟩, k⟩
  · obtain ⟨vs, h3, h4⟩ := h
    exact h2 D ys (strs_paired h3 h4)
theorem kSign {A : Around} {s : Shared} {scope : Scope} {x : Str} {C : Addr} {pos p1 p2 : Pos} {m} {d : Nat} {k1} {st : String} {w : World} (hc : compScope scope x = true) (hn : s.heap.Ns C m) (hv : m x = some (.str (S [d]) u)) (hz : (tx st).length ≤ 1000) :
    wpAny (model PR w) A (eval (.BinOp (.Constant (.str (Str.ofString st)) k1 p1) .Add (.Name x p2) pos) (compEnv scope C env)) (fun y s₄ => (∃ u', y = .str (S (tx st ++ [d])) u') ∧ Keeps s s₄) NoE s := by
  refine wpAny_BinOp (Calls.Constant_str (getComp hc hn hv ?_))
  rw [tx_S]
  refine PyProof.Rows.add_str (fun t' tk => ⟨⟨t', by rw [S_append]⟩, ⟨_, _, rfl, fun _ _ e => e⟩⟩) (by rw [S_len, S_len]; exact size_ok (by simp; lia))
end
noncomputable def Old (c : Cx) (a : Addr) (p : Ob) : Prop := ∃ o, c.h₀.get? a = some o ∧ p o
section
variable {c c' : Cx} {σ σ' : Sg} {a : Addr} {p : Ob} {Q : Value → Sg → Prop}
theorem Old.kn (k : Old c a p) : Kn c σ a p := let ⟨o, e, hp⟩ := k; .old o e hp
theorem Kn.toOld (k : Kn c σ a p) (h1 : ∀ b o, c.h₀.get? b = some o → c'.h₀.get? b = some o) (h2 : ∀ q ∈ σ.news, ∃ o, c'.h₀.get? q.1 = some o ∧ q.2 o) : Old c' a p := by
  cases k with
  | old o e hp => exact ⟨o, h1 _ _ e, hp⟩
  | led m => exact h2 _ m.mem
theorem WP.appendU {d : Addr} {vs : List Value} {w : Value} {l l' : Led} {sl} (u : LedSet d (lst vs) (lst (vs ++ [w])) l l') (hn : vs.length ≤ 4000000) (H : Q .none ⟨sl, l'⟩) : WP c ⟨sl, l⟩ (PySem.call (.builtin "list.append") [.ref d, w] []) Q := .append (σ := ⟨sl, l⟩) hn u H
theorem WP.extendU {d e : Addr} {vs ws : List Value} {l l' : Led} {sl} (k2 : Kn c ⟨sl, l⟩ e (lst ws)) (u : LedSet d (lst vs) (lst (vs ++ ws)) l l') (hn : vs.length + ws.length ≤ 4000000) (H : Q .none ⟨sl, l'⟩) : WP c ⟨sl, l⟩ (PySem.call (.builtin "list.extend") [.ref d, .ref e] []) Q := .extend (σ := ⟨sl, l⟩) k2 hn u H
end
noncomputable def IsFn (w : World) (f : Addr) : Prop := ∃ oc od fd osl, (KK w).lookup f = some ⟨oc, od, .func fd, osl⟩
section
variable {c : Cx} {σ : Sg} {pos : Pos} {Q : Value → Sg → Prop}
theorem WP.cwI {f : Addr} {first e env} {args : List PySem.Expr} (hf : IsFn c.w f)
    (H : WP c σ (spliced (backTo pos (starEach (e :: args) env))) (fun vs σ₁ => WC c σ₁ (.call (.ref f) ⟨first ++ vs, []⟩) Q)) (he : hPlain e = true := by with_unfolding_all rfl) : WP c σ (callWith pos (.ref f) first (backTo pos (starEach (e :: args) env)) []) Q := by
  obtain ⟨oc, od, fd, osl, ho⟩ := hf
  refine ⟨fun A h tk R S p₀ => ?_⟩
  refine callWith_function (o := ⟨oc, od, .func fd, osl⟩) (fd := fd) (wpAny_mono (WP.args1 (Q := fun a σ₁ => WP c σ₁ (PySem.call (.ref f) (first ++ a.pos) a.kw) Q) R S p₀ he (H.mono fun _ _ h => .callC h)) ?_ fun _ _ e => e)
  refine Post.thru ?_
  rintro a h1 tk1 σ1 S1 p1 H1
  exact ⟨⟨S1.base.k _ _ ho, rfl⟩, H1.run A h1 tk1 R S1 p1⟩
theorem WP.cwI_0 {f : Addr} {e env} {args : List PySem.Expr} (hf : IsFn c.w f)
    (H : WP c σ (spliced (backTo pos (starEach (e :: args) env))) (fun vs σ₁ => WC c σ₁ (.call (.ref f) ⟨vs, []⟩) Q)) (he : hPlain e = true := by with_unfolding_all rfl) : WP c σ (callWith pos (.ref f) [] (backTo pos (starEach (e :: args) env)) []) Q := .cwI hf H he
theorem WP.cwI_1 {f : Addr} {o : Value} {e env} {args : List PySem.Expr} (hf : IsFn c.w f)
    (H : WP c σ (spliced (backTo pos (starEach (e :: args) env))) (fun vs σ₁ => WC c σ₁ (.call (.ref f) ⟨o :: vs, []⟩) Q)) (he : hPlain e = true := by with_unfolding_all rfl) : WP c σ (callWith pos (.ref f) [o] (backTo pos (starEach (e :: args) env)) []) Q := .cwI hf H he
theorem WP.cwI0 {f : Addr} {first env} (hf : IsFn c.w f)
    (H : WC c σ (.call (.ref f) ⟨first, []⟩) Q) : WP c σ (callWith pos (.ref f) first (backTo pos (starEach [] env)) []) Q := by
  obtain ⟨oc, od, fd, osl, ho⟩ := hf
  refine ⟨fun A h tk R S p₀ => ?_⟩
  refine callWith_function (o := ⟨oc, od, .func fd, osl⟩) (fd := fd) (PyProof.Rows.evalArgs_none ?_)
  refine ⟨⟨S.base.k _ _ ho, rfl⟩, ?_⟩
  rw [List.append_nil]
  exact (WP.callC H).run A h tk R S p₀
end
noncomputable def fnAs : List Addr := [846, 851, 858, 865, 872, 879, 886, 893, 900, 905, 912, 133, 140, 147, 152, 112, 126, 105, 166, 193, 470, 477, 484, 498, 646, 654, 759, 766, 796, 803]
noncomputable def isFnB (w : World) (f : Addr) : Bool := match (KK w).lookup f with
  | some ⟨_, _, .func _, _⟩ => true
  | _ => false
theorem isFn_all (w : World) : fnAs.all (isFnB w) = true := by kernel_rfl
theorem isDef (w : World) (f : Addr) (h : f ∈ fnAs) : IsFn w f := by
  have e := List.all_eq_true.mp (isFn_all w) f h
  unfold isFnB at e
  split at e
  · exact ⟨_, _, _, _, by assumption⟩
  · cases e
inductive Kids (K : Addr → Ob → Prop) : List Value → Forest → Prop
  | nil : Kids K [] .nil
  | leaf {e : Addr} {n g : T} {w : Nat} {t u v : Tok} {vs r} : K e (lst [.str (S n) t, .int w u, .str (S g) v, .none]) → Kids K vs r → Kids K (.ref e :: vs) (.leaf n w g r)
  | node {e b : Addr} {n g : T} {w : Nat} {t u v : Tok} {ks d vs r} : K e (lst [.str (S n) t, .int w u, .str (S g) v, .ref b]) → K b (lst ks) → Kids K ks d → Kids K vs r → Kids K (.ref e :: vs) (.node n w g d r)
theorem Kids.mono {K K' : Addr → Ob → Prop} {vs f} (h : Kids K vs f) (hk : ∀ a p, K a p → K' a p) : Kids K' vs f := by
  induction h with
  | nil => exact .nil
  | leaf h1 _ ih => exact .leaf (hk _ _ h1) ih
  | node h1 h2 _ _ ih1 ih2 => exact .node (hk _ _ h1) (hk _ _ h2) ih1 ih2
theorem Kids.len {K vs f} (h : Kids K vs f) : vs.length = f.top := by
  induction h with
  | nil => rfl
  | leaf h1 _ ih => simp [Forest.top, ih]
  | node h1 h2 _ _ ih1 ih2 => simp [Forest.top, ih2]
end Mine
end
section
set_option genInjectivity false
set_option genSizeOf false
set_option genCtorIdx false
set_option bootstrap.genMatcherCode false
open PySem PySem.W PyProof.Rows PySem.Calls PySem.Spec
set_option maxRecDepth 100000
set_option maxHeartbeats 8000000
set_option tactic.hygienic false
namespace Mine
section
variable {α β : Type} {c : Cx} {σ : Sg} {ns : List Str} {gs : List (Str × Value)} {pos : Pos} {x y z : Str} {a b l : T} {t u v : Tok} {Q : Value → Sg → Prop} {env : Env} {qn qb qc qt qf : Sg → Prop} {qr : Value → Sg → Prop} {i j : Int}
structure BW (c : Cx) (σ : Sg) (fd : FuncData) (args : Args) (Q : List (Str × Value) → Sg → Prop) : Prop where
  run : ∀ A h tk, St c σ h → 0 < tk → wpAny (model PR c.w) A (bindArgs fd args) (Post c Q) NoE ⟨h, c.g, c.d, tk, c.os⟩
theorem BW.of_eq {fd args binds} {Q : List (Str × Value) → Sg → Prop} (h : bindArgs fd args = pure binds) (H : Q binds σ) : BW c σ fd args Q :=
  ⟨fun A h' tk S p => by rw [h]; exact wpAny_pure ⟨_, _, _, rfl, S, p, H⟩⟩
theorem BW.tuple {fd args} {Q : List (Str × Value) → Sg → Prop} (vs : List Value) (f : Value → List (Str × Value)) (h : bindArgs fd args = (newTuple vs >>= fun v => pure (f v))) (hl : vs.length ≤ 4000000) (H : ∀ a, Q (f (.ref a)) ⟨σ.vs, (a, tup vs) :: σ.news⟩) : BW c σ fd args Q :=
  ⟨fun A h' tk S p => by
    rw [h]
    exact wpAny_bind (wpAny_newObj_type (wpAny_pure ⟨_, _, ⟨σ.vs, (_, tup vs) :: σ.news⟩, rfl, S.push _ _ ⟨0, rfl⟩ rfl, p, H _⟩) (by show vs.toArray.size ≤ sizeLine; rw [List.size_toArray, sizeLine_eq]; lia))⟩
theorem BW.defaults {fd args binds} {Q : List (Str × Value) → Sg → Prop} {T : Addr} {o : Obj} {items : Array Value} {n : Nat} {k : Option (Array Value) → Sem (List (Str × Value))} (hd : fd.defaults = .ref T) (ho : (KK c.w).lookup T = some o) (hs : o.data = .seq items n)
    (h₁ : bindArgs fd args = seqItems? fd.defaults >>= k) (h₂ : k (some items) = pure binds) (H : Q binds σ) : BW c σ fd args Q :=
  ⟨fun A h' tk S p => by
    rw [h₁, hd]
    refine wpAny_bind (wpAny_seqItems (S.base.k _ _ ho) hs ?_)
    rw [h₂]
    exact wpAny_pure ⟨_, _, _, rfl, S, p, H⟩⟩
theorem WC.pureCallB {f : Addr} {fd body args} {Q : Value → Sg → Prop} (ps rest : List Str) (dp un : Nat) (nss : List Str) (gs : List (Str × Value)) (hf : FnAt c.w f fd body nss gs) (hd : dp + 1 ≤ c.dp) (hu : un + 3 ≤ c.un)
    (H : BW c σ fd args (fun binds σ₁ => ∃ vals, binds = ps.zip vals ∧ ps.length = vals.length ∧ ∀ c' : Cx, c'.w = c.w → c'.dp = dp → c'.un = un → EnvOk c' nss gs → (∀ b o, c.h₀.get? b = some o → c'.h₀.get? b = some o) → (∀ p ∈ σ₁.news, ∃ o, c'.h₀.get? p.1 = some o ∧ p.2 o) →
      WL c' ⟨vals.map some ++ rest.map (fun _ => none), []⟩ c'.env body (Kp σ₁ Q .none) (Kp σ₁ Q) (Kp σ₁ Q .none) (Kp σ₁ Q .none)))
    (hns : nss = ps ++ rest := by rfl) : WC c σ (.call (.ref f) args) Q := by
  subst hns
  obtain ⟨⟨k1, k2, k3, k4⟩, ⟨l1, l2⟩, g1, e1, e2, e3⟩ := fnChk_cut hf.chk
  obtain ⟨oc, od, osl, ho⟩ := hf.here
  have hns : ps.Nodup := (List.nodup_append.mp l2).1
  refine ⟨fun A h tk R S p₀ => ?_⟩
  have B := S.base
  refine codeAny_call_function (by have := R.dep; lia) (B.k _ _ ho) rfl k2 k3 hf.body (codeRec_of B.k e3) (wpAny_mono (H.run _ h tk S p₀) ?_ fun _ _ e => e.elim)
  rintro binds _ ⟨hb1, tkb, σ, rfl, S, p₀, vals, rfl, hl, H⟩
  have B := S.base
  refine wpAny_newFunctionEnv k4 (fun x hx => (l1 x.1 (List.mem_append_left _ (mem_zip_fst hx))).1) (fun h₁ hns₀ hsb₀ => ⟨B.nl.fresh _ hsb₀, codeAny_func ?_⟩) k1
  have hk : ∀ b o, hb1.get? b = some o → h₁.get? b = some o := fun b o e => hsb₀.extBut b o (Nat.ne_of_lt (Heap.lt_size e)) (Heap.get?_push_of_some _ e)
  have hn := hns₀
  dsimp only at hn hk ⊢
  let c' : Cx := { w := c.w, h₀ := hb1, base := B, env := callEnv fd hb1.objs.size f, L := hb1.objs.size, ns := ps ++ rest, dp := dp, un := un, g := c.g, d := c.d, os := c.os }
  have D : EnvOk c' (ps ++ rest) gs := ⟨rfl, l2, k1, rfl, l1, g1, e1, e2⟩
  rw [slots_of_binds rest ps vals hns hl] at hn
  have S' : St c' ⟨vals.map some ++ rest.map (fun _ => none), []⟩ h₁ := ⟨⟨hn, hk, Nat.le_refl _⟩, fun _ hp => (nomatch hp), List.nodup_nil⟩
  have R' : Room (A.deeper (callEnv fd hb1.objs.size f)) dp un := by
    refine ⟨R.hd, ?_, ?_⟩
    · have := R.dep; show A.depth + 1 + dp < _; lia
    · have := R.un; show A.units + 3 + un < _; lia
  refine wpAny_mono ((H c' rfl rfl rfl D S.keep (fun p hp => (S.nw p hp).1)).wp.run _ h₁ _ R' S' (Nat.lt_of_lt_of_le p₀ (Nat.le_add_right ..))) ?_ (fun _ _ e => e.elim)
  refine Post.thru ?_
  rintro fl h2 tk2 σ2 S2 p2 ⟨add, hsub, hq⟩
  have keep2 : ∀ b o, hb1.get? b = some o → h2.get? b = some o := S2.keep
  have S3 : St c σ h2 := S.ext keep2
  have hq' : Post c Q (retf fl) ⟨h2, c.g, c.d, tk2, c.os⟩ := by
    refine ⟨h2, tk2, ⟨σ.vs, add ++ σ.news⟩, rfl, ⟨S3.fr, ?_, ?_⟩, p2, hq⟩
    · intro p hp
      rcases List.mem_append.mp hp with hp | hp
      · have y := S2.nw p (hsub.mem hp)
        have hn0 : hb1.get? p.1 = none := y.2.2
        refine ⟨y.1, ?_, ?_⟩
        · intro e
          obtain ⟨oL, _, _, hL, _⟩ := S.fr.ns
          rw [e, hL] at hn0; cases hn0
        · cases q : c.h₀.get? p.1 with
          | none => rfl
          | some o => rw [S.keep _ _ q] at hn0; cases hn0
      · exact S3.nw p hp
    · rw [List.map_append, List.nodup_append]
      refine ⟨(hsub.map (·.1)).nodup S2.nd, S.nd, fun a ha b hb e => ?_⟩
      obtain ⟨p, hp, rfl⟩ := List.mem_map.mp ha
      obtain ⟨q, hq2, rfl⟩ := List.mem_map.mp hb
      have hn0 : hb1.get? p.1 = none := (S2.nw p (hsub.mem hp)).2.2
      obtain ⟨oq, hoq, _⟩ := (S.nw q hq2).1
      rw [e, hoq] at hn0; cases hn0
  cases fl <;> exact hq'
theorem WP.cwT_0 {T : String} {e env} {args : List PySem.Expr} {Q : Value → Sg → Prop}
    (H : WP c σ (spliced (backTo pos (starEach (e :: args) env))) (fun vs σ₁ => WP c σ₁ (PySem.call (.type T) vs []) Q)) (he : hPlain e = true := by with_unfolding_all rfl) (hp : (e :: args).all hPlain = true := by with_unfolding_all rfl) : WP c σ (callWith pos (.type T) [] (backTo pos (starEach (e :: args) env)) []) Q := by
  refine ⟨fun A h tk R S p₀ => ?_⟩
  refine PyProof.Rows.callWith_type (backTo_none hp) ?_
  have H' := H.run A h tk R S p₀
  rw [star_plain he] at H' ⊢
  refine evalArgs_plain (wpAny_mono H' ?_ fun _ _ e => e)
  refine Post.thru ?_
  rintro a h1 tk1 σ1 S1 p1 H1
  exact H1.run A h1 tk1 R S1 p1
theorem WP.type_str (H : Q (.type "str") σ) : WP c σ (PySem.call (.type "type") [.str x t] []) Q := .of0 fun A _ _ _ Z _ => by
  refine wpAny_call (codeAny_of_tree ?_)
  refine (?_ : wpAny _ _ (callAny (.type "type") ⟨[.str x t], []⟩) _ _ _)
  simp only [callAny]
  refine wpAny_pure ⟨Code.quiet_builtin _ (by decide +kernel), codeAny_builtin entry_type_call ?_⟩
  unfold Builtin.«type.__call__»
  dsimp only
  unfold shownTypeOf
  repeat (first | wp_step)
  exact ⟨_, _, _, rfl, Z, H⟩
theorem WP.type_int (H : Q (.type "int") σ) : WP c σ (PySem.call (.type "type") [.int i t] []) Q := .of0 fun A _ _ _ Z _ => by
  refine wpAny_call (codeAny_of_tree ?_)
  refine (?_ : wpAny _ _ (callAny (.type "type") ⟨[.int i t], []⟩) _ _ _)
  simp only [callAny]
  refine wpAny_pure ⟨Code.quiet_builtin _ (by decide +kernel), codeAny_builtin entry_type_call ?_⟩
  unfold Builtin.«type.__call__»
  dsimp only
  unfold shownTypeOf
  repeat (first | wp_step)
  exact ⟨_, _, _, rfl, Z, H⟩
theorem WP.issub {e : Addr} (k : Kn c σ e (tup [.type "str", .type "bytes"])) (H : Q (.bool true) σ) : WP c σ (PySem.call (.builtin "issubclass") [.type "str", .ref e] []) Q := .of0 fun A _ _ _ Z _ => by
  obtain ⟨o, ho, n, rfl⟩ := Z.kn k
  exact issub_tup ho rfl rfl ⟨_, _, _, rfl, Z, H⟩
theorem WP.isi_sb (H : Q (.bool false) σ) : WP c σ (PySem.call (.builtin "isinstance") [.str x t, .type "bytes"] []) Q := .of0 fun A _ _ _ Z _ => IsiPair.str_bytes ⟨_, _, _, rfl, Z, H⟩
theorem WP.isi_ss (H : Q (.bool true) σ) : WP c σ (PySem.call (.builtin "isinstance") [.str x t, .type "str"] []) Q := .of0 fun A _ _ _ Z _ => call_isinstance_yes (Tx := "str") rfl ty_str sub_ss ⟨_, _, _, rfl, Z, H⟩
theorem WP.startswith {d : Nat} (H : Q (.bool (decide (a[0]? = some d))) σ) : WP c σ (PySem.call (.builtin "str.startswith") [.str (S a) t, .str (S [d]) u] []) Q := .of0 fun A _ _ _ Z _ => SC.startswith (by rw [sw_one]; exact ⟨_, _, _, rfl, Z, H⟩)
theorem WP.endswith {d : Nat} (H : Q (.bool (decide (a.getLast? = some d))) σ) : WP c σ (PySem.call (.builtin "str.endswith") [.str (S a) t, .str (S [d]) u] []) Q := .of0 fun A _ _ _ Z _ => SC.endswith (by rw [ew_one]; exact ⟨_, _, _, rfl, Z, H⟩)
theorem WP.rfind {d : Nat} {k : Int} (hk : Txt.rfind (S a) (S [d]) = k) (H : ∀ t', Q (.int k t') σ) : WP c σ (PySem.call (.builtin "str.rfind") [.str (S a) t, .str (S [d]) u] []) Q := .of0 fun A _ _ _ Z _ => SC.rfind (by rw [hk]; exact ⟨_, _, _, rfl, Z, H _⟩)
theorem WP.rstrip {d : Nat} {b : T} (hk : Txt.rstripChars (S a) (S [d]) = S b) (ha : a.length ≤ 4000000) (H : ∀ t', Q (.str (S b) t') σ) : WP c σ (PySem.call (.builtin "str.rstrip") [.str (S a) t, .str (S [d]) u] []) Q := .of0 fun A _ _ _ Z _ => SC.rstripChars (fun t' k => by rw [hk]; exact ⟨_, _, _, rfl, Z, H _⟩) (by rw [S_len]; exact size_ok ha)
noncomputable def partOf : Option (Int × Tok) → Option Int := Option.map (·.1)
theorem wp_strslice {M A E s} {value slice : PySem.Expr} {I : Addr} {o : Obj} {vl vu : Option (Int × Tok)} {Q : Value → Shared → Prop} {w : World} (hM : M = model PR w) (ho : s.heap.get? I = some o) (hs : slc (partValue vl) (partValue vu) .none o) (hz : a.length ≤ 4000000)
    (h : ∀ t' k, Q (.str (Txt.slice (S a) (vl.map (·.1)) (vu.map (·.1))) t') { s with toks := k }) : wpAny M A (subscriptTail value slice (.str (S a) t) (.ref I)) Q E s := by
  subst hM
  refine wp_sub rfl (typeIs_str _ _ _) PySem.F.slot_str_getitem.lookup (wpAny_getItem_str_slice (l := vl) (u := vu) (st := none) ⟨o, ho, hs.1, hs.2⟩ rfl ?_)
  have : sliceMade (S a) t vl vu none = sliceMade (S a) t vl vu none := rfl
  exact post_val_or_str ⟨Nat.le_trans (Txt.slice_le (S a) _ _) (by rw [S_len]; exact size_ok hz), fun t' k => h t' k⟩
theorem WP.sTo {value slice} {I : Addr} (k : Kn c σ I (slc .none (.int j u) .none)) (hz : a.length ≤ 4000000) (h0 : 0 ≤ j) (h2 : j ≤ a.length) (H : ∀ t', Q (.str (S (a.take j.toNat)) t') σ) : WP c σ (subscriptTail value slice (.str (S a) t) (.ref I)) Q := .of0 fun A _ _ _ Z _ => by
  obtain ⟨o, ho, hs⟩ := Z.kn k
  exact wp_strslice (vl := none) (vu := some (j, u)) rfl ho hs hz fun t' k => ⟨_, _, _, rfl, Z, by have e := slice_to (a := a) h0 h2; exact Eq.mpr (congrArg (fun z => Q (.str z t') σ) e) (H t')⟩
theorem WP.sFrom {value slice} {I : Addr} (k : Kn c σ I (slc (.int j u) .none .none)) (hz : a.length ≤ 4000000) (h0 : 0 ≤ j) (h2 : j ≤ a.length) (H : ∀ t', Q (.str (S (a.drop j.toNat)) t') σ) : WP c σ (subscriptTail value slice (.str (S a) t) (.ref I)) Q := .of0 fun A _ _ _ Z _ => by
  obtain ⟨o, ho, hs⟩ := Z.kn k
  exact wp_strslice (vl := some (j, u)) (vu := none) rfl ho hs hz fun t' k => ⟨_, _, _, rfl, Z, by have e := slice_from (a := a) h0 h2; exact Eq.mpr (congrArg (fun z => Q (.str z t') σ) e) (H t')⟩
theorem WP.sFT {value slice} {I : Addr} (k : Kn c σ I (slc (.int i u) (.int j v) .none)) (hz : a.length ≤ 4000000) (h0 : 0 ≤ i) (h1 : i ≤ j) (h2 : j ≤ a.length) (H : ∀ t', Q (.str (S ((a.drop i.toNat).take (j - i).toNat)) t') σ) : WP c σ (subscriptTail value slice (.str (S a) t) (.ref I)) Q := .of0 fun A _ _ _ Z _ => by
  obtain ⟨o, ho, hs⟩ := Z.kn k
  exact wp_strslice (vl := some (i, u)) (vu := some (j, v)) rfl ho hs hz fun t' k => ⟨_, _, _, rfl, Z, by have e := slice_ft (a := a) h0 h1 h2; exact Eq.mpr (congrArg (fun z => Q (.str z t') σ) e) (H t')⟩
theorem WP.sBut {value slice} {I : Addr} {d : Nat} (k : Kn c σ I (slc .none (.int (-1) u) .none)) (hz : a.length + 1 ≤ 4000000) (H : ∀ t', Q (.str (S a) t') σ) : WP c σ (subscriptTail value slice (.str (S (a ++ [d])) t) (.ref I)) Q := .of0 fun A _ _ _ Z _ => by
  obtain ⟨o, ho, hs⟩ := Z.kn k
  exact wp_strslice (vl := none) (vu := some (-1, u)) rfl ho hs (by simp; lia) fun t' k => ⟨_, _, _, rfl, Z, by have e := slice_but (a := a) (d := d); exact Eq.mpr (congrArg (fun z => Q (.str z t') σ) e) (H t')⟩
theorem WP.mul_str {d : Nat} {n : Nat} (hn : n ≤ 100000) (H : ∀ t', Q (.str (S (List.replicate n d)) t') σ) : WP c σ (binaryOp .Mult (.str (S [d]) t) (.int n u)) Q := .of0 fun A _ _ _ Z _ => by
  have hl : (S [d]).length = 1 := S_len _
  have hf : ∀ (n : Nat) (b : T), List.foldl (fun x1 x2 => x1 ++ x2) b.toArray (List.replicate n (S [d]).cps) = (b ++ List.replicate n d).toArray := by
    intro n
    induction n with
    | zero => intro b; simp
    | succ n ih =>
      intro b
      rw [List.replicate_succ, List.foldl_cons]
      have e : b.toArray ++ (S [d]).cps = (b ++ [d]).toArray := by simp [S]
      rw [e, ih]
      simp [List.replicate_succ]
  refine PySem.P.mul_str (by simp; lia) (fun h1 h2 h3 => ?_) (fun h1 h2 => ?_) ?_
  · rw [hl] at h3
    have h4 : (1 : Int) ≤ (2 ^ 63 - 1) / n := by
      rw [Int.le_ediv_iff_mul_le (by lia)]; lia
    exact absurd h3 (Int.not_lt.mpr h4)
  · rw [hl]
    unfold Builtin.Str.tooLong
    rw [decide_eq_false_iff_not, sizeLine_eq]
    simp; lia
  · by_cases h0 : n = 0
    · subst h0
      rw [if_pos (by decide)]
      exact ⟨by decide, _, _, _, rfl, Z, H _⟩
    · rw [if_neg (by lia)]
      by_cases h1 : n = 1
      · subst h1
        rw [if_pos (by simp)]
        exact ⟨_, _, _, rfl, Z, H _⟩
      · rw [if_neg (by rw [hl]; simp; lia)]
        have e := hf n []
        rw [List.nil_append] at e
        have e2 : List.foldl (fun x1 x2 => x1 ++ x2) #[] (List.replicate ((n : Int)).toNat (S [d]).cps) = (List.replicate n d).toArray := e
        rw [e2]
        refine ⟨by show (S (List.replicate n d)).length ≤ sizeLine; rw [S_len, List.length_replicate]; exact size_ok (by lia), _, _, _, rfl, Z, H _⟩
theorem St.isTup {h : Heap} {e : Addr} {vs} (Z : St c σ h) (k : Kn c σ e (tup vs)) : IsTup h e vs.toArray := by
  obtain ⟨o, ho, n, rfl⟩ := Z.kn k
  exact ⟨_, ho, rfl, n, rfl⟩
theorem WP.unpackT2 {x1 x2 : Str} {p1 p2 : Pos} {k : Nat} {l : Addr} {v1 v2 : Value} {Q : Unit → Sg → Prop} (kn : Kn c σ l (tup [v1, v2]))
    (H : WP c σ (storeName env x1 v1) (fun _ σ₁ => WP c σ₁ (storeName env x2 v2) Q)) :
    WP c σ (assign (.Tuple [.Name x1 p1, .Name x2 p2] k pos) env (.ref l)) Q := by
  refine ⟨fun A h tk R Z p₀ => ?_⟩
  have ht := Z.isTup kn
  refine assign_Tuple_tuple R.hd ht rfl rfl fun h' he => ?_
  have H' : WP c σ (assignInOrder ((assignEach [.Name x1 p1, .Name x2 p2] env).map (·.2)) [v1, v2]) Q :=
    .inOrder (.asg (e := .Name x1 p1) (H.mono fun _ _ H => .inOrder (.asg (e := .Name x1 p1) (H.mono fun _ _ H => .inOrder0 H))))
  exact H'.run A h' tk R (Z.ext fun b o q => he b o (Nat.ne_of_lt (Heap.lt_size q)) q) p₀
noncomputable def tupIt (l : Addr) (i : Nat) (o : Obj) : Prop := o.cls = .type "tuple_iterator" ∧ o.data = .fields #[.ref l, .int i 0]
theorem ItOk.tuple {l : Addr} {vs : List Value} : ItOk c (tupIt l) vs.length (fun i v => vs[i]? = some v) (fun σ => Kn c σ l (tup vs)) where
  next := fun i A h tk I σ R Z p₀ hk hi => by
    have hit : h.IsTupleIter I l i := Z.get (a := I) .head
    have hl := Z.isTup (hk.mono fun q hq => .tail _ hq)
    refine wpAny_pyNext_tuple_item hit hl (x := vs[i]) (by simp [hi]) fun h' hit' hs' => ?_
    exact ⟨_, rfl, by simp [hi], h', tk, _, rfl, Z.step hs' hit', rfl⟩
  stop := fun A h tk I σ R Z p₀ hk => by
    have hit : h.IsTupleIter I l vs.length := Z.get (a := I) .head
    have hl := Z.isTup (hk.mono fun q hq => .tail _ hq)
    exact wpAny_pyNext_tuple_end R.hd hit hl (by simp) fun h' he' => ⟨rfl, h', tk, σ, rfl, Z.drop he', rfl⟩
  own := fun i o ho => ⟨_, ho.1, by decide⟩
theorem IterOf.tuple {l : Addr} {vs : List Value} (k : Kn c σ l (tup vs)) : IterOf c σ (.ref l) (tupIt l) :=
  ⟨fun _ h _ _ Z _ => wpAny_pyIter_tuple (Z.isTup k) ⟨_, rfl, _, _, _, rfl, Z.push _ (tupIt l 0) ⟨rfl, rfl⟩ rfl, rfl⟩⟩
theorem WS.forT {target iter body} (H : WP c σ (eval iter env) (fun v σ₁ => Ex3 fun (d : Addr) (vs : List Value) (Inv : List Value → Sg → Prop) => A5 (v = .ref d) (Inv vs σ₁) ((∀ rest σ', Inv rest σ' → Kn c σ' d (tup vs))) ((∀ v rest p I σ', Inv (v :: rest) σ' → WP c ⟨σ'.vs, (I, p) :: σ'.news⟩ (assign target env v) (fun _ σ₂ => WLN c σ₂ env body (EndTurn I p (Inv rest)) qr qn (EndTurn I p (Inv rest))))) ((∀ σ', Inv [] σ' → qn σ')))) (hfs : ∀ x, foldedSetIterable iter env x = Pure.pure x := by intro _; rfl) :
    WS c σ env (.For target iter body [] pos) qn qr qb qc := by
  refine .forIt (H.mono ?_) hfs
  rintro v σ₁ ⟨d, vs, Inv, rfl, h0, hk, ht, hd⟩
  refine ⟨tupIt d, vs.length, fun i v => vs[i]? = some v, fun σ => Kn c σ d (tup vs), fun i => Inv (vs.drop i), .tuple (hk _ _ h0), ⟨.tuple, fun i σ' hi => hk _ _ hi, fun i v I σ' hi hv hI => ?_, fun σ' hI => hd σ' (by rw [List.drop_length] at hI; exact hI)⟩, h0⟩
  have e : vs.drop i = v :: vs.drop (i + 1) := by
    obtain ⟨h1, h2⟩ := List.getElem?_eq_some_iff.mp hv
    rw [List.drop_eq_getElem_cons h1, h2]
  rw [e] at hI
  exact ht v (vs.drop (i + 1)) (tupIt d (i + 1)) I σ' hI
theorem WS.AssignTup {elts k value} (H : WP c σ (eval value env) (fun v σ₁ => WP c σ₁ (assign (.Tuple elts k p1) env v) (fun _ σ₂ => qn σ₂))) (hs : hNoComp value = true := by with_unfolding_all rfl) (hw : swappedStores [.Tuple elts k p1] value env = Pure.pure none := by rfl) :
    WS c σ env (.Assign [.Tuple elts k p1] value pos) qn qr qb qc := by
  refine ⟨fun A h tk R S p₀ => ?_⟩
  refine wpAny_Assign_stores (H.runK R S p₀ ?_) (by show swapsWith value (some (.Tuple elts k p1)) pos.line env = Pure.pure false; exact swaps_plain hs) hw
  rintro v h1 tk1 σ1 S1 p1 H1
  exact wpAny_mono (H1.run A h1 tk1 R S1 p1) (fun _ _ p => p) fun _ _ e => e
theorem WP.asgN {p : Pos} {v : Value} {Q : Unit → Sg → Prop} (H : WP c σ (storeName env x v) Q) : WP c σ (assign (.Name x p) env v) Q := .asg (e := .Name x p) H
theorem WS.Try {body : List Stmt} {h₀ : ExceptHandler} {hs : List ExceptHandler} (H : WL c σ env body qn qr qb qc) : WS c σ env (.Try body (h₀ :: hs) [] [] pos) qn qr qb qc := by
  refine ⟨fun A h tk R S p₀ => ?_⟩
  refine wpAny_Try_except (H.runK R S p₀ ?_)
  rintro f h1 tk1 σ1 S1 p1 H1
  cases f with
  | next => exact wpAny_execs_nil ⟨h1, tk1, σ1, rfl, S1, p1, H1⟩
  | ret v => exact ⟨h1, tk1, σ1, rfl, S1, p1, H1⟩
  | brk => exact ⟨h1, tk1, σ1, rfl, S1, p1, H1⟩
  | cont => exact ⟨h1, tk1, σ1, rfl, S1, p1, H1⟩
end
end Mine
end
section
set_option genInjectivity false
set_option genSizeOf false
set_option genCtorIdx false
set_option bootstrap.genMatcherCode false
set_option tactic.hygienic true
open PySem PySem.W PyProof.Rows PySem.Calls PySem.Spec
set_option maxRecDepth 100000
set_option maxHeartbeats 400000
namespace Mine
theorem star_not : ∀ {e : PySem.Expr}, hPlain e = true → (match e with | .Starred .. => true | _ => false) = false := by
  intro e h
  cases e <;> first | rfl | cases h
theorem swapped2 {env : Env} {x1 x2 : Str} {p1 p2 tp vp : Pos} {k k2 : Nat} {e1 e2 : PySem.Expr} (hb : env.blockKind = .function) (h1 : env.kindOf x1 = some .local) (h2 : env.kindOf x2 = some .local) (hl : p2.line = p1.line) (hne : (x1 == x2) = false)
    (hp1 : hPlain e1 = true) (hp2 : hPlain e2 = true) (hf : [e1, e2].all (foldedForSure 8) = false) (hc : [e1, e2].all (constantsAlone 8) = false) :
    swappedStores [.Tuple [.Name x1 p1, .Name x2 p2] k tp] (.Tuple [e1, e2] k2 vp) env = Pure.pure (some [x1, x2]) := by
  have hx : (x2 == x1) = false := by rw [beq_eq_false_iff_ne] at hne ⊢; exact fun e => hne e.symm
  unfold swappedStores
  dsimp only
  split
  · rename_i h; simp [hb] at h
  split
  · rename_i h
    simp only [List.any_cons, List.any_nil, Bool.or_false, Bool.or_eq_true] at h
    rcases h with h | h
    · exact Bool.noConfusion ((star_not hp1).symm.trans h)
    · exact Bool.noConfusion ((star_not hp2).symm.trans h)
  have hd : [x1, x2].eraseDups = [x1, x2] := by
    rw [List.eraseDups_cons, List.filter_cons, hx]
    rfl
  simp only [List.filterMap_cons, List.filterMap_nil, List.head?_cons, Option.map_some, Option.getD_some, show (PySem.Expr.Name x1 p1).pos = p1 from rfl, h1, h2, hl, beq_self_eq_true, Bool.and_self, if_true, hd, hf, hc]
  rfl
theorem WS.AssignSwap2 {c : Cx} {σ : Sg} {ns : List Str} {gs : List (Str × Value)} {qn qb qc : Sg → Prop} {qr : Value → Sg → Prop} {pos : Pos} {x1 x2 : Str} {q1 q2 tp vp : Pos} {k k2 : Nat} {e1 e2 : PySem.Expr} (D : EnvOk c ns gs) (m1 : x1 ∈ ns) (m2 : x2 ∈ ns)
    (hl : q2.line = q1.line) (hne : (x1 == x2) = false) (hp1 : hPlain e1 = true) (hp2 : hPlain e2 = true) (hf : [e1, e2].all (foldedForSure 8) = false) (hc : [e1, e2].all (constantsAlone 8) = false)
    (H : WP c σ (eval (.Tuple [e1, e2] k2 vp) c.env) (fun v σ₁ => Ex3 fun (l : Addr) (v1 v2 : Value) => A3 (v = .ref l) (Kn c σ₁ l (tup [v1, v2])) (WP c σ₁ (storeName c.env x2 v2) (fun _ σ₂ => WP c σ₂ (storeName c.env x1 v1) (fun _ σ₃ => qn σ₃))))) :
    WS c σ c.env (.Assign [.Tuple [.Name x1 q1, .Name x2 q2] k tp] (.Tuple [e1, e2] k2 vp) pos) qn qr qb qc := by
  refine ⟨fun A h tk R Z p₀ => ?_⟩
  have hb : c.env.blockKind = .function := by
    have := D.kind
    unfold Env.blockKind
    simp [this]
  have hw := swapped2 (k := k) (k2 := k2) (tp := tp) (vp := vp) hb (D.loc _ m1).1 (D.loc _ m2).1 hl hne hp1 hp2 hf hc
  have hs : swapsWithSole [.Tuple [.Name x1 q1, .Name x2 q2] k tp] (.Tuple [e1, e2] k2 vp) pos.line c.env = Pure.pure false := by
    unfold swapsWithSole
    exact swaps_plain rfl
  have HH := wpAny_mono (H.run A h tk R Z p₀) (Q' := fun v s₁ => wpAny (model PR c.w) A (unpackItems v 2 none) (fun items s₂ =>
      wpAny (model PR c.w) A (assignInOrder ([x1, x2].reverse.map fun n => bindName c.env n) items.reverse) (fun _ => Post c (FQ qn qr qb qc) .next) NoE s₂) NoE s₁) ?_ (fun _ _ e => e)
  · exact Assign_Tuple_swapped (names := [x1, x2]) HH hs hw
  refine Post.thru ?_
  rintro v h1 tk1 σ1 S1 p1 ⟨l, v1, v2, rfl, kn, H1⟩
  refine unpackItems_tuple (items := #[v1, v2]) R.hd (S1.isTup kn) fun h' he => ?_
  have H' : WP c σ1 (assignInOrder [bindName c.env x2, bindName c.env x1] [v2, v1]) (fun _ σ₃ => qn σ₃) :=
    .inOrder ⟨fun A h tk R Z p => wpAny_bindName ((H1.mono fun _ _ H => WP.inOrder ⟨fun A h tk R Z p => wpAny_bindName ((H.mono fun _ _ H => WP.inOrder0 H).run A h tk R Z p)⟩).run A h tk R Z p)⟩
  exact wpAny_mono (H'.run A h' tk1 R (S1.ext fun b o q => he b o (Nat.ne_of_lt (Heap.lt_size q)) q) p1) (fun _ _ p => p) fun _ _ e => e
end Mine
end
section
set_option genInjectivity false
set_option genSizeOf false
set_option genCtorIdx false
set_option bootstrap.genMatcherCode false
set_option tactic.hygienic true
open PySem PySem.W PyProof.Rows PySem.Calls PySem.Spec
set_option maxRecDepth 100000
set_option maxHeartbeats 8000000
namespace Mine
inductive Objs : Led → List (Addr × Obj) → Prop
  | nil : Objs [] []
  | cons {a : Addr} {p : Ob} {o : Obj} {l os} : p o → Objs l os → Objs ((a, p) :: l) ((a, o) :: os)
theorem Objs.append {l1 l2 o1 o2} (h1 : Objs l1 o1) (h2 : Objs l2 o2) : Objs (l1 ++ l2) (o1 ++ o2) := by
  induction h1 with
  | nil => exact h2
  | cons hp _ ih => exact .cons hp ih
theorem Objs.split : ∀ {l1 l2 : Led} {os}, Objs (l1 ++ l2) os → ∃ o1 o2, os = o1 ++ o2 ∧ Objs l1 o1 ∧ Objs l2 o2
  | [], l2, os, h => ⟨[], os, rfl, .nil, h⟩
  | p :: l1, l2, _, .cons hp h => by
    obtain ⟨o1, o2, rfl, h1, h2⟩ := Objs.split h
    exact ⟨_ :: o1, o2, rfl, .cons hp h1, h2⟩
theorem Objs.keys {l os} (h : Objs l os) : os.map (·.1) = l.map (·.1) := by
  induction h with
  | nil => rfl
  | cons _ _ ih => simp [ih]
theorem Objs.set {a : Addr} {p p' : Ob} {l l' os} (u : LedSet a p p' l l') (h : Objs l os) : ∃ pre o post, os = pre ++ (a, o) :: post ∧ p o ∧ ∀ o', p' o' → Objs l' (pre ++ (a, o') :: post) := by
  induction u generalizing os with
  | head =>
    cases h with
    | cons hp h => exact ⟨[], _, _, rfl, hp, fun o' h' => .cons h' h⟩
  | tail _ ih =>
    cases h with
    | cons hp h =>
      obtain ⟨pre, o, post, rfl, h1, h2⟩ := ih h
      exact ⟨_ :: pre, o, post, rfl, h1, fun o' h' => .cons hp (h2 o' h')⟩
  | left _ ih =>
    obtain ⟨o1, o2, rfl, h1, h2⟩ := h.split
    obtain ⟨pre, o, post, rfl, h3, h4⟩ := ih h1
    exact ⟨pre, o, post ++ o2, by simp, h3, fun o' h' => by have := (h4 o' h').append h2; simpa using this⟩
  | right _ ih =>
    obtain ⟨o1, o2, rfl, h1, h2⟩ := h.split
    obtain ⟨pre, o, post, rfl, h3, h4⟩ := ih h2
    exact ⟨o1 ++ pre, o, post, by simp, h3, fun o' h' => by have := h1.append (h4 o' h'); simpa using this⟩
section
variable {α β : Type} {c : Cx} {σ : Sg} {ns : List Str} {gs : List (Str × Value)} {pos : Pos} {x y z : Str} {a b l : T} {t u v : Tok} {Q : Value → Sg → Prop} {env : Env} {qn qb qc qt qf : Sg → Prop} {qr : Value → Sg → Prop} {i j : Int}
theorem objs_of {h : Heap} : ∀ {l : Led}, (∀ p ∈ l, ∃ o, h.get? p.1 = some o ∧ p.2 o) → ∃ os, Objs l os ∧ ∀ q ∈ os, h.get? q.1 = some q.2
  | [], _ => ⟨[], .nil, fun _ hq => nomatch hq⟩
  | (a, p) :: l, hl => by
    obtain ⟨o, ho, hp⟩ := hl _ (.head _)
    obtain ⟨os, h1, h2⟩ := objs_of fun q hq => hl q (.tail _ hq)
    exact ⟨(a, o) :: os, .cons hp h1, fun q hq => by
      rcases List.mem_cons.mp hq with rfl | hq
      · exact ho
      · exact h2 q hq⟩
theorem St.objs {h : Heap} (Z : St c σ h) : ∃ os, Objs σ.news os ∧ News c.h₀ c.L h os := by
  obtain ⟨os, h1, h2⟩ := objs_of (h := h) (l := σ.news) fun p hp => (Z.nw p hp).1
  refine ⟨os, h1, fun q hq => ?_⟩
  have hm : q.1 ∈ σ.news.map (·.1) := by rw [← h1.keys]; exact List.mem_map.mpr ⟨q, hq, rfl⟩
  obtain ⟨p, hp, e⟩ := List.mem_map.mp hm
  have := Z.nw p hp
  rw [e] at this
  exact ⟨h2 q hq, this.2.1, this.2.2⟩
theorem St.of_objs {h : Heap} {vs : List (Option Value)} {news : Led} {os} (F : Fr c.h₀ c.L h (slotGet c.ns vs)) (N : News c.h₀ c.L h os) (O : Objs news os) (nd : (news.map (·.1)).Nodup) : St c ⟨vs, news⟩ h := by
  refine ⟨F, fun p hp => ?_, nd⟩
  induction O with
  | nil => cases hp
  | @cons a p' o l os hp' _ ih =>
    rcases List.mem_cons.mp hp with rfl | hp
    · have := N (a, o) (.head _)
      exact ⟨⟨o, this.1, hp'⟩, this.2⟩
    · exact ih (fun q hq => N q (.tail _ hq)) (List.nodup_cons.mp nd).2 hp

inductive Ents : List (Str × Value) → List DictEntry → Prop
  | nil : Ents [] []
  | cons {x : Str} {v : Value} {k : Int} {t : Tok} {as es} : Ents as es → Ents ((x, v) :: as) (⟨k, .str x t, v⟩ :: es)
noncomputable def dct (as : List (Str × Value)) (o : Obj) : Prop := ∃ es n, o = dictOf es n ∧ Ents as es
noncomputable def inst (C dx : Addr) (o : Obj) : Prop := o = ⟨.ref C, some dx, .plain, #[]⟩
inductive AtAt (x : Str) (v : Value) : List (Str × Value) → Prop
  | head {r} : AtAt x v ((x, v) :: r)
  | tail {y w r} : (y == x) = false → AtAt x v r → AtAt x v ((y, w) :: r)
inductive AtNo (x : Str) : List (Str × Value) → Prop
  | nil : AtNo x []
  | cons {y w r} : (y == x) = false → AtNo x r → AtNo x ((y, w) :: r)
inductive AtSet (x : Str) (v : Value) : List (Str × Value) → List (Str × Value) → Prop
  | nil : AtSet x v [] [(x, v)]
  | head {w r} : AtSet x v ((x, w) :: r) ((x, v) :: r)
  | tail {y w r r'} : (y == x) = false → AtSet x v r r' → AtSet x v ((y, w) :: r) ((y, w) :: r')
theorem isStr_str (y x : Str) (t : Tok) : (Value.str y t).isStr x = (y == x) := rfl
theorem Ents.noRef {as es} (h : Ents as es) : es.any (·.refKey) = false := by
  induction h with
  | nil => rfl
  | cons _ ih => rw [List.any_cons, ih]; rfl
theorem Ents.get {as es} (h : Ents as es) (m : AtAt x v' as) : getL x es = some (some v') := by
  unfold getL
  induction h with
  | nil => cases m
  | @cons y w k t as es h ih =>
    cases m with
    | head => rw [List.find?_cons]; simp [isStr_str]
    | tail hne m => rw [List.find?_cons]; simp only [isStr_str, hne]; have := ih m; split at this <;> rename_i q <;> simp_all
theorem Ents.no {as es} (h : Ents as es) (m : AtNo x as) : getL x es = some none := by
  have : es.find? (·.key.isStr x) = none := by
    induction h with
    | nil => rfl
    | @cons y w k t as es h ih =>
      cases m with
      | cons hne m => rw [List.find?_cons]; simp only [isStr_str, hne]; exact ih m
  unfold getL
  rw [this, h.noRef]
  rfl
theorem Ents.some {as es} (h : Ents as es) (x : Str) : (getL x es).isSome = true := by
  unfold getL
  split
  · rfl
  · rw [h.noRef]; rfl
theorem Ents.put {as as' es} (h : Ents as es) (u : AtSet x w as as') (k : Int) (t : Tok) : Ents as' (putL x k (.str x t) w es) := by
  induction u generalizing es with
  | nil => cases h; exact .cons .nil
  | @head w' r =>
    cases h with
    | cons h => simp only [putL, isStr_str, beq_self_eq_true, if_true]; exact .cons h
  | @tail y w' r r' hne _ ih =>
    cases h with
    | cons h => simp only [putL, isStr_str, hne, Bool.false_eq_true, if_false]; exact .cons (ih h)
theorem Ents.len {as es} (h : Ents as es) : es.length = as.length := by
  induction h with
  | nil => rfl
  | cons _ ih => simp [ih]
noncomputable def getChk (K : Frag) (C : Addr) (name : Str) : Bool := plainGet K C name && hasDictIn K C && (match findIn K (.ref C) name with | some attr => noGet K attr | none => false)
noncomputable def setChk (K : Frag) (C : Addr) (name : Str) : Bool := (findIn K (.ref C) "__setattr__" == some (some (.builtin "object.__setattr__"))) && plainOver K C && (takerIn K C name == some none) && hasDictIn K C
theorem St.inst {h : Heap} {q dx C : Addr} {od : Obj} (Z : St c σ h) (k : Kn c σ q (Mine.inst C dx)) (hd : h.get? dx = some od) : InstAt h q ⟨.ref C, some dx, .plain, #[]⟩ C (some od) := by
  obtain ⟨o, ho, rfl⟩ := Z.kn k
  exact ⟨ho, rfl, rfl, hd⟩
theorem WP.getA {q dx C : Addr} {as : List (Str × Value)} {name : Str} {w : Value} {e : Bool} {names : List Str} (hc : names.all (getChk (KK c.w) C) = true) (k1 : Kn c σ q (inst C dx)) (k2 : Kn c σ dx (dct as)) (hm : name ∈ names) (ha : AtAt name w as) (hv : handedIn w = true) (H : Q w σ) : WP c σ (getAttr (.ref q) name e) Q := .of0 fun A h tk R Z p => by
  obtain ⟨od, hod, es, n, rfl, he⟩ := Z.kn k2
  have hk := List.all_eq_true.mp hc _ hm
  unfold getChk at hk
  obtain ⟨hk, h3⟩ := Bool.and_eq_true_iff.mp hk
  obtain ⟨h1, h2⟩ := Bool.and_eq_true_iff.mp hk
  split at h3
  · rename_i attr hf
    exact get_own Z.fr c.base.k (Z.inst k1 hod) h1 h2 hf h3 (he.get ha) hv ⟨_, _, _, rfl, Z, H⟩
  · cases h3
theorem WP.setA {q dx C : Addr} {as as' : List (Str × Value)} {name : Str} {w : Value} {l' : Led} {vs} {news : Led} {names : List Str} {Q : Unit → Sg → Prop} (hc : names.all (setChk (KK c.w) C) = true) (k1 : Kn c ⟨vs, news⟩ q (inst C dx)) (u : LedSet dx (dct as) (dct as') news l') (hm : name ∈ names) (ha : AtSet name w as as') (hz : as'.length ≤ 1000) (H : Q () ⟨vs, l'⟩) : WP c ⟨vs, news⟩ (setAttr (.ref q) name w) Q := .of0 fun A h tk R Z p => by
  obtain ⟨os, hO, hN⟩ := Z.objs
  obtain ⟨pre, od, post, rfl, ⟨es, n, rfl, he⟩, hset⟩ := hO.set u
  have hk := List.all_eq_true.mp hc _ hm
  unfold setChk at hk
  obtain ⟨hk, h4⟩ := Bool.and_eq_true_iff.mp hk
  obtain ⟨hk, h3⟩ := Bool.and_eq_true_iff.mp hk
  obtain ⟨h1, h2⟩ := Bool.and_eq_true_iff.mp hk
  have hod := (hN (dx, dictOf es n) (by simp)).1
  have nd : ((pre ++ (dx, dictOf es n) :: post).map (·.1)).Nodup := by rw [hO.keys]; exact Z.nd
  rw [List.map_append, List.map_cons, List.nodup_append, List.nodup_cons] at nd
  have a1 : ∀ p ∈ pre, p.1 ≠ dx := fun p hp e => nd.2.2 p.1 (List.mem_map.mpr ⟨p, hp, rfl⟩) dx (.head _) e
  have a2 : ∀ p ∈ post, p.1 ≠ dx := fun p hp e => nd.2.1.1 (List.mem_map.mpr ⟨p, hp, e⟩)
  have he' := he.put ha (PyData.keyHash c.w.params name) (tk + 1)
  refine set_plain (Z.base.k) (Z.inst k1 hod) (eq_of_beq h1) (osa_dict (s := ⟨h, c.g, c.d, tk + 1, c.os⟩) Z.fr hN Z.base.k (Z.inst k1 hod) rfl h2 (eq_of_beq h3) h4 (by show (lookIn name (dictOf es n)).isSome = true; rw [lookIn_dict]; exact he.some _) a1 a2 (putName_dict _ _ _ _ _ _) rfl (by rw [he'.len]; exact hz) fun h' F' N' => ?_)
  refine ⟨h', _, ⟨vs, l'⟩, rfl, St.of_objs F' N' (hset _ ⟨_, _, rfl, he'⟩) ?_, H⟩
  rw [u.keys]; exact Z.nd
noncomputable def methChk (K : Frag) (C : Addr) (p : Str × Addr) : Bool := plainGet K C p.1 && (findIn K (.ref C) p.1 == some (some (.ref p.2))) && isFn K (.ref p.2)
theorem WP.meth {q dx C f : Addr} {as : List (Str × Value)} {name : Str} {pl : Sem Bool} {Q : Value × List Value → Sg → Prop} {fns : List (Str × Addr)} (hc : fns.all (methChk (KK c.w) C) = true) (k1 : Kn c σ q (inst C dx)) (k2 : Kn c σ dx (dct as)) (hm : (name, f) ∈ fns) (ha : AtNo name as) (H : Q (.ref f, [.ref q]) σ) : WP c σ (getMethod (.ref q) name pl) Q := .of0 fun A h tk R Z p => by
  obtain ⟨od, hod, es, n, rfl, he⟩ := Z.kn k2
  have hk := List.all_eq_true.mp hc _ hm
  unfold methChk at hk
  obtain ⟨hk, h3⟩ := Bool.and_eq_true_iff.mp hk
  obtain ⟨h1, h2⟩ := Bool.and_eq_true_iff.mp hk
  exact method_inst Z.fr c.base.k (Z.inst k1 hod) h1 (eq_of_beq h2) h3 (he.no ha) ⟨_, _, _, rfl, Z, H⟩
end
end Mine
end
section
set_option genInjectivity false
set_option genSizeOf false
set_option genCtorIdx false
set_option bootstrap.genMatcherCode false
open PySem PySem.W PyProof.Rows PySem.Calls PySem.Spec
set_option maxRecDepth 100000
set_option maxHeartbeats 8000000
set_option tactic.hygienic false
namespace Mine
noncomputable def shNames : List Str := ["instream", "infile", "posix", "eof", "commenters", "wordchars", "whitespace", "whitespace_split", "quotes", "escape", "escapedquotes", "state", "pushback", "lineno", "debug", "token", "filestack", "source", "_punctuation_chars", "_pushback_chars"]
noncomputable def ioNames : List Str := ["_StringIO__newline", "_StringIO__buf", "_StringIO__pos"]
theorem sh_get (w : World) : shNames.all (getChk (KK w) 835) = true := by kernel_rfl
theorem sh_set (w : World) : shNames.all (setChk (KK w) 835) = true := by kernel_rfl
theorem io_get (w : World) : ioNames.all (getChk (KK w) 700) = true := by kernel_rfl
theorem io_set (w : World) : ioNames.all (setChk (KK w) 700) = true := by kernel_rfl
noncomputable def shMeths : List (Str × Addr) := [("get_token", 796), ("read_token", 803)]
noncomputable def ioMeths : List (Str × Addr) := [("_StringIO__translated", 477), ("_StringIO__check", 484), ("_StringIO__line", 498), ("read", 646), ("readline", 654)]
theorem sh_meth (w : World) : shMeths.all (methChk (KK w) 835) = true := by kernel_rfl
theorem io_meth (w : World) : ioMeths.all (methChk (KK w) 700) = true := by kernel_rfl
end Mine
end
section
set_option genInjectivity false
set_option genSizeOf false
set_option genCtorIdx false
set_option bootstrap.genMatcherCode false
open PySem PySem.W PyProof.Rows PySem.Calls PySem.Spec
set_option maxRecDepth 100000
set_option maxHeartbeats 1000000
set_option tactic.hygienic false
namespace Mine
theorem io_made (w : World) {h : Heap} (X : (KK w).In h) : Looks (model PR w) h (Bind.madeBy (.ref 700)) none := Looks.of_peek X (by kernel_rfl)
theorem io_here (w : World) {h : Heap} (X : (KK w).In h) : Looks (model PR w) h (Bind.madeHere "object.__new__" (.ref 700)) () := Looks.of_peek X (by kernel_rfl)
theorem io_w (a : List Value) : (Code.builtin "type.__call__" ⟨.ref 700 :: a, []⟩).weight = 1 := by kernel_rfl
theorem io_cls (w : World) {h : Heap} (X : (KK w).In h) : Looks (model PR w) h (specialOf (.ref 700) "__call__") (some (.builtin "type.__call__")) := Looks.of_peek X (by kernel_rfl)
theorem io_isT (w : World) {h : Heap} (X : (KK w).In h) : Looks (model PR w) h (isInstance (.ref 700) (.type "type")) true := Looks.of_peek X (by kernel_rfl)
theorem io_mro (w : World) {h : Heap} (X : (KK w).In h) : Looks (model PR w) h (mroOf (.ref 700)) [.ref 700, .ref 223, .ref 196, .type "object"] := Looks.of_peek X (by kernel_rfl)
theorem io_self (w : World) {h : Heap} (X : (KK w).In h) : Looks (model PR w) h (isSubtype (.ref 700) (.ref 700)) true := Looks.of_peek X (by kernel_rfl)
theorem io_init (w : World) {h : Heap} (X : (KK w).In h) : Looks (model PR w) h (typeLookup (.ref 700) "__init__") (some (.ref 470)) := Looks.of_peek X (by kernel_rfl)
theorem io_fn470 (w : World) : typeIn (KK w) (.ref 470) = some (.type "function") := by kernel_rfl
theorem io_reads (w : World) : readsIn (KK w) 700 (.type "type") = true := by kernel_rfl
theorem io_find (w : World) : findCls (KK w) (.ref 700) (.type "type") "__new__" = some (.get (.builtin "staticmethod.__get__") (.ref 197) .none (.ref 700)) := by kernel_rfl
theorem io_rec (w : World) : recIn (KK w) 197 "staticmethod" = some [.ref 193] := by kernel_rfl
section
variable {w : World} {A : Around} {h : Heap} {g : Array GenState} {d : Drawn} {t : Nat} {os : OsState} {R : Result → Shared → Prop}
theorem io_core {rest : List Value} (X : (KK w).In h)
    (hq : ∀ t', t ≤ t' → codeAny (model PR w) (A.under (.builtin "type.__call__" ⟨.ref 700 :: rest, []⟩)) (.call (.ref 193) ⟨.ref 700 :: rest, []⟩) (fun r s' => match r with
      | .ok (.ret v) => ∃ x dx, v = .ref x ∧ s'.heap.get? x = some (instObj 700 dx) ∧ (KK w).In s'.heap ∧
          codeAny (model PR w) (A.under (.builtin "type.__call__" ⟨.ref 700 :: rest, []⟩)) (.call (.ref 470) ⟨.ref x :: rest, []⟩) (InitBack x R) s'
      | .ok _ => False
      | .error _ => False) ⟨h, g, d, t', os⟩) :
    codeAny (model PR w) A (.call (.ref 700) ⟨rest, []⟩) R ⟨h, g, d, t, os⟩ := by
  obtain ⟨oc, od, cd, sl, hC⟩ : ∃ oc od cd sl, (KK w).lookup 700 = some ⟨oc, od, .cls cd, sl⟩ := ⟨_, _, _, _, by rfl⟩
  refine codeAny_of_tree ?_
  refine (?_ : wpAny _ _ (callAny (.ref 700) _) _ _ _)
  refine nd_load (X _ _ hC) ?_
  refine (?_ : wpAny _ _ (callAny.viaDunder (.ref 700) _) _ _ _)
  unfold callAny.viaDunder
  refine wpAny_bind ((io_cls w X).at ?_)
  dsimp only
  rw [tc_bind]
  refine wpAny_bind (wpAny_pure (wpAny_bind (wpAny_pure ?_)))
  refine wpAny_pure (a := Fin.again (.call (.builtin "type.__call__") ⟨.ref 700 :: rest, []⟩)) (And.intro rfl ?_)
  refine codeAny_call_builtin_at (Code.quiet_builtin _ (by decide +kernel)) entry_typeCall (check_slot tc_kind tc_split (io_isT w X) (tc_args _ _ _) ?_)
  unfold Builtin.«type.__call__»
  have hm := io_mro w X
  have hmade := io_made w X
  have hself := io_self w X
  dsimp only
  generalize hG : getAttr (.ref 700) "__new__" = G
  repeat (first | simp only [List.isEmpty_cons, Bool.false_eq_true, if_false] | lk)
  subst hG
  refine cls_bind (s := ⟨h, g, d, t, os⟩) X (io_reads w) (io_find w) ?_
  refine wpAny_call (sm_get (s := ⟨h, g, d, t + 1, os⟩) X (io_rec w) ?_)
  refine handed_on rfl ?_
  have hq1 := hq (t + 1) (Nat.le_succ _)
  repeat (first | with_reducible refine wpAny_call ?_ | lk)
  refine codeAny_mono hq1 fun r s' z => ?_
  rcases r with e | (v | _ | _ | _) <;> first | exact z.elim | skip
  obtain ⟨x, dx, rfl, hx, X', z⟩ := z
  have t1 : Looks (model PR w) s'.heap (typeOf (.ref x)) (.ref 700) := (Looks.ld hx).andThen .now
  have s1 := io_self w X'
  have i1 := io_init w X'
  have b1 : Looks (model PR w) s'.heap (bindSpecial (.ref 470) (.ref x)) (.ref 470, [.ref x]) := bind_fn X' _ (io_fn470 w)
  obtain ⟨h', g', d', t', os'⟩ := s'
  dsimp only at hx X' z t1 s1 i1 b1
  unfold isInstance callSpecial? specialOf
  repeat (first | with_reducible refine wpAny_call ?_ | lk)
  refine codeAny_mono z fun r s' z => ?_
  rcases r with e | (v | _ | _ | _) <;> first | exact z | exact z.elim | skip
  obtain ⟨rfl, z⟩ := z
  exact wpAny_pure (wpAny_pure z)
end
end Mine
end
section
set_option genInjectivity false
set_option genSizeOf false
set_option genCtorIdx false
set_option bootstrap.genMatcherCode false
open PySem PySem.W PyProof.Rows PySem.Calls PySem.Spec
set_option maxRecDepth 100000
set_option maxHeartbeats 2000000
set_option tactic.hygienic false
namespace Mine
theorem io_top (w : World) {h : Heap} (X : (KK w).In h) : Looks (model PR w) h (isSubtype (.ref 700) (.type "object")) true := Looks.of_peek X (by kernel_rfl)
theorem io_base (w : World) {h : Heap} (X : (KK w).In h) : Looks (model PR w) h (Bind.staticBase (.ref 700)) (.type "object") := Looks.of_peek X (by kernel_rfl)
theorem obj_made (w : World) {h : Heap} (X : (KK w).In h) : Looks (model PR w) h (Bind.madeBy (.type "object")) (some "object.__new__") := Looks.of_peek X (by kernel_rfl)
section
variable {w : World} {A : Around} {h : Heap} {g : Array GenState} {d : Drawn} {t : Nat} {os : OsState} {R : Result → Shared → Prop}
theorem io_new (X : (KK w).In h) (hq : R (.ok (.ret (.ref (h.objs.size + 1)))) ⟨(h.push emptyDict).push (instObj 700 h.objs.size), g, d, t, os⟩) :
    codeAny (model PR w) A (.call (.builtin "object.__new__") ⟨[.ref 700], []⟩) R ⟨h, g, d, t, os⟩ := by
  obtain ⟨oc, od, cd, sl, hC, e1, e2⟩ : ∃ oc od cd sl, (KK w).lookup 700 = some ⟨oc, od, .cls cd, sl⟩ ∧ cd.abstract = false ∧ cd.hasDel = false := ⟨_, _, _, _, by rfl, by rfl, by rfl⟩
  have F := PySem.F.objNew
  refine codeAny_call_builtin_code (Code.quiet_builtin _ F.quiet) ?_
  simp only [checkBuiltinCall, F.kind, F.split, F.row]
  have here := io_here w X
  have args : Bind.checkArgs "object.__new__" ⟨.hand, "object.__new__", "__new__", .cls, []⟩ ⟨[.ref 700], []⟩ = pure () := by kernel_rfl
  have typ := io_isT w X
  have top := io_top w X
  have hC1 := X _ _ hC
  have base := io_base w X
  have mo := obj_made w X
  have hcan : (Manifest.canonical "object.__new__" != Manifest.canonical "object.__new__") = false := by simp
  rw [args]
  repeat (first | simp only [bne_self_eq_false, Bool.false_eq_true, if_false] | lk)
  refine codeAny_builtin F.entry ?_
  unfold Builtin.«object.__new__»
  have fin : ∀ A', wpAny (model PR w) A' (do
      let d ← if typeHasDict (.ref 700) then some <$> alloc { cls := .type "dict", data := .dict #[] } else pure none
      ret (← newObj (.ref 700) .plain d)) (fun fin s' => match fin with | .done f => R (.ok f) s' | .again c' => c'.quiet = true ∧ codeAny (model PR w) A c' R s') (fun e s' => R (.error e) s') ⟨h, g, d, t, os⟩ := by
    intro A'
    refine (?_ : wpAny _ _ ((alloc emptyDict >>= fun x => pure (some x)) >>= _) _ _ _)
    refine wpAny_bind (wpAny_bind (wpAny_alloc (wpAny_pure (wpAny_bind ?_))))
    refine (?_ : wpAny _ _ (newObjAsIs _ _ _) _ _ _)
    unfold newObjAsIs classHasDel
    refine wpAny_bind (wpAny_alloc (wpAny_bind (wpAny_bind (wpAny_load (Heap.get?_push_of_some _ (Heap.get?_push_of_some _ hC1)) (wpAny_pure ?_)))))
    rw [e2]
    refine wpAny_pure (wpAny_pure ?_)
    refine (?_ : R _ _)
    rw [Heap.size_push]
    exact hq
  repeat (first | simp only [e1, Bool.false_eq_true, if_false] | exact fin _ | lk)
end
end Mine
end
section
set_option genInjectivity false
set_option genSizeOf false
set_option genCtorIdx false
set_option bootstrap.genMatcherCode false
open PySem PySem.W PyProof.Rows PySem.Calls PySem.Spec
set_option maxRecDepth 100000
set_option maxHeartbeats 2000000
set_option tactic.hygienic false
namespace Mine
noncomputable def Cx.at (c : Cx) (dp un : Nat) : Cx := { c with dp := dp, un := un }
section
variable {α β : Type} {c : Cx} {σ : Sg} {ns : List Str} {gs : List (Str × Value)} {pos : Pos} {x y z : Str} {a b l : T} {t u v : Tok} {Q : Value → Sg → Prop} {env : Env} {qn qb qc qt qf : Sg → Prop} {qr : Value → Sg → Prop} {i j : Int} {dp un : Nat}
theorem St.to {h : Heap} (Z : St c σ h) : St (c.at dp un) σ h := ⟨Z.fr, Z.nw, Z.nd⟩
theorem St.from {h : Heap} (Z : St (c.at dp un) σ h) : St c σ h := ⟨Z.fr, Z.nw, Z.nd⟩
theorem Post.from {Q : α → Sg → Prop} {a : α} {s' : Shared} (p : Post (c.at dp un) Q a s') : Post c Q a s' := let ⟨h', tk', σ', e, Z, p0, q⟩ := p; ⟨h', tk', σ', e, Z.from, p0, q⟩
theorem St.pushInst {h : Heap} (Z : St c σ h) (C : Addr) : St c ⟨σ.vs, (h.objs.size + 1, Mine.inst C h.objs.size) :: (h.objs.size, dct []) :: σ.news⟩ ((h.push emptyDict).push (instObj C h.objs.size)) := by
  have z1 := Z.push emptyDict (dct []) ⟨[], 0, rfl, .nil⟩ rfl
  have z2 := z1.push (instObj C h.objs.size) (Mine.inst C h.objs.size) rfl rfl
  rw [Heap.size_push] at z2
  exact z2
theorem sh_w (kw : List (Str × Value)) (a : List Value) : (Code.builtin "type.__call__" ⟨.ref 835 :: a, kw⟩).weight = 1 := by kernel_rfl
theorem sh_u (kw : List (Str × Value)) (a : List Value) : (Code.builtin "type.__call__" ⟨.ref 835 :: a, kw⟩).cUnits = 1 := by kernel_rfl
theorem io_u (a : List Value) : (Code.builtin "type.__call__" ⟨.ref 700 :: a, []⟩).cUnits = 1 := by kernel_rfl
theorem sh_makes (w : World) : makesIn (KK w) 835 = true := by kernel_rfl
theorem sh_init (w : World) : findIn (KK w) (.ref 835) "__init__" = some (some (.ref 759)) := by kernel_rfl
theorem sh_fn759 (w : World) : typeIn (KK w) (.ref 759) = some (.type "function") := by kernel_rfl
theorem Room.under {A : Around} {cd : Code} (R : Room A (dp + 1) (un + 1)) (hw : cd.weight = 1) (hu : cd.cUnits = 1) : Room (A.under cd) dp un := by
  refine ⟨R.hd, ?_, ?_⟩
  · have := R.dep; show A.depth + cd.weight + dp < _; lia
  · have := R.un; show A.units + cd.cUnits + un < _; lia
theorem Room.less {A : Around} {dp' un' : Nat} (R : Room A dp' un') (h1 : dp ≤ dp') (h2 : un ≤ un') : Room A dp un := ⟨R.hd, by have := R.dep; lia, by have := R.un; lia⟩
theorem WC.mk835 {rest : List Value} {kw : List (Str × Value)} (h1 : dp + 1 ≤ c.dp) (h2 : un + 1 ≤ c.un)
    (H : ∀ q dx, WC (c.at dp un) ⟨σ.vs, (q, inst 835 dx) :: (dx, dct []) :: σ.news⟩ (.call (.ref 759) ⟨.ref q :: rest, kw⟩) (fun v σ' => v = .none ∧ Q (.ref q) σ')) : WC c σ (.call (.ref 835) ⟨rest, kw⟩) Q := by
  refine ⟨fun A h tk R Z p => ?_⟩
  refine make_core (makes_of Z.base.k (sh_makes _)) (looks_findIn Z.base.k (sh_init _)) (fun self => bind_fn Z.base.k self (sh_fn759 _)) (.inl rfl) ?_
  refine codeAny_mono ((H (h.objs.size + 1) h.objs.size).run _ _ tk ((R.less h1 h2).under (sh_w _ _) (sh_u _ _)) (Z.pushInst 835).to p) fun r s' z => ?_
  rcases r with e | (v | _ | _ | _) <;> first | exact z.elim | skip
  obtain ⟨h', tk', σ', rfl, Z', p', rfl, hq⟩ := z
  exact ⟨rfl, h', tk', σ', rfl, Z'.from, p', hq⟩
theorem WC.mk700 {rest : List Value} (h1 : dp + 1 ≤ c.dp) (h2 : un + 1 ≤ c.un)
    (H : WC (c.at dp un) σ (.call (.ref 193) ⟨.ref 700 :: rest, []⟩) (fun v σ' => Ex2 fun q dx => A3 (v = .ref q) (Kn (c.at dp un) σ' q (inst 700 dx)) (WC (c.at dp un) σ' (.call (.ref 470) ⟨.ref q :: rest, []⟩) (fun v σ'' => v = .none ∧ Q (.ref q) σ'')))) : WC c σ (.call (.ref 700) ⟨rest, []⟩) Q := by
  refine ⟨fun A h tk R Z p => ?_⟩
  have R' := (R.less h1 h2).under (io_w rest) (io_u rest)
  refine io_core Z.base.k fun t' ht => ?_
  refine codeAny_mono (H.run _ _ t' R' Z.to (Nat.lt_of_lt_of_le p ht)) fun r s' z => ?_
  rcases r with e | (v | _ | _ | _) <;> first | exact z.elim | skip
  obtain ⟨h', tk', σ', rfl, Z', p', q, dx, rfl, kn, H'⟩ := z
  obtain ⟨o, ho, rfl⟩ := Z'.kn kn
  refine ⟨q, dx, rfl, ho, Z'.base.k, ?_⟩
  refine codeAny_mono (H'.run _ _ tk' R' Z' p') fun r s' z => ?_
  rcases r with e | (v | _ | _ | _) <;> first | exact z.elim | skip
  obtain ⟨h', tk', σ', rfl, Z', p', rfl, hq⟩ := z
  exact ⟨rfl, h', tk', σ', rfl, Z'.from, p', hq⟩
theorem WP.ioNew (H : ∀ q dx, Q (.ref q) ⟨σ.vs, (q, inst 700 dx) :: (dx, dct []) :: σ.news⟩) : WP c σ (PySem.call (.builtin "object.__new__") [.ref 700] []) Q := .of0 fun A h tk R Z p =>
  wpAny_call (io_new Z.base.k ⟨_, _, _, rfl, Z.pushInst 700, H _ _⟩)
theorem WP.cwCls {C : Addr} {e env} {args : List PySem.Expr} (hk : keepIn (KK c.w) (.ref C) = true)
    (H : WP c σ (spliced (backTo pos (starEach (e :: args) env))) (fun vs σ₁ => WC c σ₁ (.call (.ref C) ⟨vs, []⟩) Q)) (he : hPlain e = true := by with_unfolding_all rfl) (hp : (e :: args).all hPlain = true := by with_unfolding_all rfl) : WP c σ (callWith pos (.ref C) [] (backTo pos (starEach (e :: args) env)) []) Q := by
  refine ⟨fun A h tk R S p₀ => ?_⟩
  refine callWith_of (P := (KK c.w).In) (by rw [backTo_none hp]; rfl) (keeps_K hk) ?_
  refine wpAny_mono (WP.args1 (Q := fun a σ₁ => WP c σ₁ (PySem.call (.ref C) ([] ++ a.pos) a.kw) Q) R S p₀ he (H.mono fun _ _ h => .callC h)) ?_ fun _ _ e => e
  refine Post.thru ?_
  rintro a h1 tk1 σ1 S1 p1 H1
  exact ⟨S1.base.k, H1.run A h1 tk1 R S1 p1⟩
theorem sh_keep (w : World) : keepIn (KK w) (.ref 835) = true := by kernel_rfl
theorem io_keep (w : World) : keepIn (KK w) (.ref 700) = true := by kernel_rfl
theorem WP.isnot_self {q : Addr} (H : Q (.bool false) σ) : WP c σ (compareOp .IsNot (.ref q) (.ref q)) Q := .of0 fun _ _ _ _ Z _ => wpAny_isNot_ref_self ⟨_, _, _, rfl, Z, H⟩
theorem WP.isnot_cls {q r : Addr} {oq or : Obj} (hq : (KK c.w).lookup q = some oq) (hr : (KK c.w).lookup r = some or) (hne : q ≠ r) (hc : oq.cls ≠ .type "tuple") (H : Q (.bool true) σ) : WP c σ (compareOp .IsNot (.ref q) (.ref r)) Q := .of0 fun _ _ _ _ Z _ => wpAny_isNot_ref_other hne (Z.base.k _ _ hq) (Z.base.k _ _ hr) hc ⟨_, _, _, rfl, Z, H⟩
theorem WP.is_plain {v w : Value} (hp : plainIs v w = true) (H : Q (.bool (v == w)) σ) : WP c σ (compareOp .Is v w) Q := .of0 fun _ _ _ _ Z _ => wpAny_is_plain hp ⟨_, _, _, rfl, Z, H⟩
theorem WP.isnot_plain {v w : Value} (hp : plainIs v w = true) (H : Q (.bool (!(v == w))) σ) : WP c σ (compareOp .IsNot v w) Q := .of0 fun _ _ _ _ Z _ => wpAny_isNot_plain hp ⟨_, _, _, rfl, Z, H⟩
noncomputable def dq (xs : List Value) (o : Obj) : Prop := ∃ n, o = dqObj xs n
theorem WP.dqNew (H : ∀ q, Q (.ref q) ⟨σ.vs, (q, dq []) :: σ.news⟩) : WP c σ (callWith pos (.type "collections.deque") [] (backTo pos (starEach [] env)) []) Q := .of0 fun A h tk R Z p => by
  refine PyProof.Rows.callWith_type rfl (PyProof.Rows.evalArgs_none ?_)
  refine call_dq fun h' tk' hg hs => ?_
  have z := Z.push (dqObj [] 0) (dq []) ⟨0, rfl⟩ rfl
  exact ⟨h', tk', _, rfl, z.upd .head hs ⟨_, hg, 0, rfl⟩, H _⟩
theorem WP.gmD {q : Addr} {xs : List Value} {name : Str} {id : String} {pl : Sem Bool} {Q : Value × List Value → Sg → Prop} (k : Kn c σ q (dq xs)) (slot : Slot "collections.deque" name id) (ty : typeOf (.builtin id) = pure (.type "method_descriptor")) (H : Q (.builtin id, [.ref q]) σ) : WP c σ (getMethod (.ref q) name pl) Q :=
  .of0 fun _ _ _ _ Z _ => by
    obtain ⟨o, ho, n, rfl⟩ := Z.kn k
    exact getMethod_builtin ⟨_, ho, rfl⟩ plainAttrs_dq slot ty (fun a e => by cases e; exact ⟨_, ho, rfl⟩) ⟨_, _, _, rfl, Z, H⟩
theorem WP.dqAppend {q : Addr} {xs : List Value} {w : Value} {l l' : Led} {sl} (u : LedSet q (dq xs) (dq (xs ++ [w])) l l') (hn : xs.length < 100000) (H : Q .none ⟨sl, l'⟩) : WP c ⟨sl, l⟩ (PySem.call (.builtin "collections.deque.append") [.ref q, w] []) Q := .of0 fun _ _ _ _ Z _ => by
  obtain ⟨o, ho, n, rfl⟩ := Z.get (σ := ⟨sl, l⟩) u.at
  exact dq_append ho hn fun h' hg hs => ⟨h', _, _, rfl, St.upd (σ := ⟨sl, l⟩) Z u hs ⟨_, hg, _, rfl⟩, H⟩
theorem WP.dqPop {q : Addr} {xs : List Value} {w : Value} {l l' : Led} {sl} (u : LedSet q (dq (xs ++ [w])) (dq xs) l l') (hn : xs.length < 100000) (H : Q w ⟨sl, l'⟩) : WP c ⟨sl, l⟩ (PySem.call (.builtin "collections.deque.pop") [.ref q] []) Q := .of0 fun _ _ _ _ Z _ => by
  obtain ⟨o, ho, n, rfl⟩ := Z.get (σ := ⟨sl, l⟩) u.at
  exact dq_pop ho hn fun h' hg hs => ⟨h', _, _, rfl, St.upd (σ := ⟨sl, l⟩) Z u hs ⟨_, hg, _, rfl⟩, H⟩
theorem WP.dqTruth {q : Addr} {xs : List Value} {Q : Bool → Sg → Prop} (k : Kn c σ q (dq xs)) (hn : xs.length < 100000) (H : Q (!xs.isEmpty) σ) : WP c σ (truthy (.ref q)) Q := .of0 fun _ _ _ _ Z _ => by
  obtain ⟨o, ho, n, rfl⟩ := Z.kn k
  exact dq_truthy ho hn ⟨_, _, _, rfl, Z, H⟩
theorem pc_get (w : World) : (plainGet (KK w) 835 "punctuation_chars" && hasDictIn (KK w) 835) = true := by kernel_rfl
theorem pc_find (w : World) : findIn (KK w) (.ref 835) "punctuation_chars" = some (some (.ref 767)) := by kernel_rfl
theorem pc_special (w : World) : specialIn (KK w) (.ref 767) "__get__" = some (some (.builtin "property.__get__")) := by kernel_rfl
theorem pc_takes (w : World) : takesIn (KK w) (.ref 767) = some true := by kernel_rfl
theorem pc_rec' (w : World) : (recIn (KK w) 767 "property").any (fun l => l.head? == some (.ref 766)) = true := by kernel_rfl
theorem pc_rec (w : World) : ∃ rest, recIn (KK w) 767 "property" = some (.ref 766 :: rest) := by
  obtain ⟨l, hl, h⟩ := any_some (pc_rec' w)
  cases l with
  | nil => cases h
  | cons a r =>
    have : a = .ref 766 := by simpa using h
    exact ⟨r, by rw [hl, this]⟩
theorem WP.punct {q dx : Addr} {as : List (Str × Value)} {e : Bool} (h2 : un + 1 ≤ c.un) (k1 : Kn c σ q (inst 835 dx)) (k2 : Kn c σ dx (dct as))
    (H : WC (c.at c.dp un) σ (.call (.ref 766) ⟨[.ref q], []⟩) (fun v σ' => handedIn v = true ∧ Q v σ')) : WP c σ (getAttr (.ref q) "punctuation_chars" e) Q := by
  refine ⟨fun A h tk R Z p => ?_⟩
  obtain ⟨od, hod, _⟩ := Z.kn k2
  obtain ⟨g1, g2⟩ := Bool.and_eq_true_iff.mp (pc_get c.w)
  obtain ⟨rest, hr⟩ := pc_rec c.w
  refine get_prop Z.fr c.base.k (Z.inst k1 hod) g1 g2 (pc_find _) (pc_special _) (pc_takes _) hr ?_
  have R' : Room A.in1 c.dp un := ⟨R.hd, R.dep, by have := R.un; show A.units + 1 + un < _; lia⟩
  refine codeAny_mono (H.run _ _ (tk + 1) R' Z.to (Nat.succ_pos _)) fun r s' z => ?_
  rcases r with e | (v | _ | _ | _) <;> first | exact z.elim | skip
  obtain ⟨h', tk', σ', rfl, Z', p', hh, hq⟩ := z
  exact handed_on hh ⟨h', tk', σ', rfl, Z'.from, p', hq⟩
end
end Mine
end
section
set_option genInjectivity false
set_option genSizeOf false
set_option genCtorIdx false
set_option bootstrap.genMatcherCode false
open PySem PySem.W PyProof.Rows PySem.Calls PySem.Spec
set_option maxRecDepth 100000
set_option maxHeartbeats 4000000
set_option tactic.hygienic false
namespace Mine
theorem Cx.at_dp (c : Cx) (d u : Nat) : (c.at d u).dp = d := rfl
theorem Cx.at_un (c : Cx) (d u : Nat) : (c.at d u).un = u := rfl
section
variable {c : Cx} {σ : Sg}
theorem WC.mutCallB {f : Addr} {fd body args} {Q : Value → Sg → Prop} (ps rest : List Str) (dp un : Nat) (nss : List Str) (gs : List (Str × Value)) (hf : FnAt c.w f fd body nss gs) (hd : dp + 1 ≤ c.dp) (hu : un + 3 ≤ c.un)
    (H : BW c σ fd args (fun binds σ₁ => ∃ vals, binds = ps.zip vals ∧ ps.length = vals.length ∧ ∀ (c' : Cx) (oL : Ob), c'.w = c.w → c'.dp = dp → c'.un = un → EnvOk c' nss gs → c'.h₀ = c.h₀ →
      WL c' ⟨vals.map some ++ rest.map (fun _ => none), (c.L, oL) :: σ₁.news⟩ c'.env body (Km c oL σ₁ Q .none) (Km c oL σ₁ Q) (Km c oL σ₁ Q .none) (Km c oL σ₁ Q .none)))
    (hns : nss = ps ++ rest := by rfl) : WC c σ (.call (.ref f) args) Q := by
  subst hns
  obtain ⟨⟨k1, k2, k3, k4⟩, ⟨l1, l2⟩, g1, e1, e2, e3⟩ := fnChk_cut hf.chk
  obtain ⟨oc, od, osl, ho⟩ := hf.here
  have hns : ps.Nodup := (List.nodup_append.mp l2).1
  refine ⟨fun A h tk R S p₀ => ?_⟩
  have B := S.base
  refine codeAny_call_function (by have := R.dep; lia) (B.k _ _ ho) rfl k2 k3 hf.body (codeRec_of B.k e3) (wpAny_mono (H.run _ h tk S p₀) ?_ fun _ _ e => e.elim)
  rintro binds _ ⟨hb1, tkb, σ, rfl, S, p₀, vals, rfl, hl, H⟩
  have B := S.base
  obtain ⟨oL, esL, epL, hL, rL⟩ := S.fr.ns
  have hL0 : c.h₀.get? c.L = none := by
    cases q : c.h₀.get? c.L with
    | none => rfl
    | some o => exact absurd (Heap.lt_size q) (Nat.not_lt.mpr S.fr.above)
  refine wpAny_newFunctionEnv k4 (fun x hx => (l1 x.1 (List.mem_append_left _ (mem_zip_fst hx))).1) (fun h₁ hns₀ hsb₀ => ⟨B.nl.fresh _ hsb₀, codeAny_func ?_⟩) k1
  have hk : ∀ b o, hb1.get? b = some o → h₁.get? b = some o := fun b o e => hsb₀.extBut b o (Nat.ne_of_lt (Heap.lt_size e)) (Heap.get?_push_of_some _ e)
  have hn := hns₀
  dsimp only at hn hk ⊢
  let c' : Cx := { w := c.w, h₀ := c.h₀, base := c.base, env := callEnv fd hb1.objs.size f, L := hb1.objs.size, ns := ps ++ rest, dp := dp, un := un, g := c.g, d := c.d, os := c.os }
  have D : EnvOk c' (ps ++ rest) gs := ⟨rfl, l2, k1, rfl, l1, g1, e1, e2⟩
  rw [slots_of_binds rest ps vals hns hl] at hn
  have hlt : ∀ a o, hb1.get? a = some o → a ≠ hb1.objs.size := fun a o e => Nat.ne_of_lt (Heap.lt_size e)
  have S' : St c' ⟨vals.map some ++ rest.map (fun _ => none), (c.L, (· = oL)) :: σ.news⟩ h₁ := by
    refine ⟨⟨hn, fun b o e => hk b o (S.keep b o e), ?_⟩, ?_, ?_⟩
    · exact Nat.le_of_lt (Nat.lt_of_le_of_lt S.fr.above (Heap.lt_size hL))
    · intro p hp
      rcases List.mem_cons.mp hp with rfl | hp
      · exact ⟨⟨oL, hk _ _ hL, rfl⟩, hlt _ _ hL, hL0⟩
      · obtain ⟨⟨o', y1, y2⟩, _, y4⟩ := S.nw p hp
        exact ⟨⟨o', hk _ _ y1, y2⟩, hlt _ _ y1, y4⟩
    · refine List.nodup_cons.mpr ⟨fun hm => ?_, S.nd⟩
      obtain ⟨p, hp, e⟩ := List.mem_map.mp hm
      exact (S.nw p hp).2.1 e
  have R' : Room (A.deeper (callEnv fd hb1.objs.size f)) dp un := by
    refine ⟨R.hd, ?_, ?_⟩
    · have := R.dep; show A.depth + 1 + dp < _; lia
    · have := R.un; show A.units + 3 + un < _; lia
  refine wpAny_mono ((H c' (· = oL) rfl rfl rfl D rfl).wp.run _ h₁ _ R' S' (Nat.lt_of_lt_of_le p₀ (Nat.le_add_right ..))) ?_ (fun _ _ e => e.elim)
  refine Post.thru ?_
  rintro fl h2 tk2 σ2 S2 p2 ⟨l, hsub, hq⟩
  have nd := (hsub.map (·.1)).nodup S2.nd
  have nd' := List.nodup_cons.mp nd
  have hq' : Post c Q (retf fl) ⟨h2, c.g, c.d, tk2, c.os⟩ := by
    obtain ⟨⟨oL', hL1, hL2⟩, _⟩ := S2.nw _ (hsub.mem (.head _))
    subst hL2
    refine ⟨h2, tk2, ⟨σ.vs, l⟩, rfl, ⟨⟨⟨_, esL, epL, hL1, rL⟩, S2.fr.keep, S.fr.above⟩, ?_, nd'.2⟩, p2, hq⟩
    intro p hp
    have y := S2.nw p (hsub.mem (.tail _ hp))
    exact ⟨y.1, fun e => nd'.1 (List.mem_map.mpr ⟨p, hp, e⟩), y.2.2⟩
  cases fl <;> exact hq'
end
end Mine
end
section
set_option genInjectivity false
set_option genSizeOf false
set_option genCtorIdx false
set_option bootstrap.genMatcherCode false
open PySem PySem.W PyProof.Rows PySem.Calls PySem.Spec
set_option maxRecDepth 100000
set_option maxHeartbeats 4000000
set_option tactic.hygienic false
namespace Mine
section
variable {c : Cx} {σ : Sg} {pos p1 : Pos} {env : Env} {Q : Value → Sg → Prop} {qn qb qc : Sg → Prop} {qr : Value → Sg → Prop}
theorem WS.AssignAttr {o attr value} (H : WP c σ (eval value env) (fun v σ₁ => WP c σ₁ (eval o env) (fun ov σ₂ => WP c σ₂ (setAttr ov attr v) (fun _ σ₃ => qn σ₃)))) (hs : hNoComp value = true := by with_unfolding_all rfl) :
    WS c σ env (.Assign [.Attribute o attr p1] value pos) qn qr qb qc := by
  refine ⟨fun A h tk R S p₀ => ?_⟩
  refine plainObj_wpAny_Assign_Attribute (H.runK R S p₀ ?_) (swaps_plain hs)
  rintro v h1 tk1 σ1 S1 p1 H1
  refine H1.runK R S1 p1 ?_
  rintro ov h2 tk2 σ2 S2 p2 H2
  exact wpAny_mono (H2.run A h2 tk2 R S2 p2) (fun _ _ p => p) fun _ _ e => e
theorem WS.AugAttr {o attr op value} (H : WP c σ (eval o env) (fun ov σ₁ => WP c σ₁ (getAttr ov attr true) (fun old σ₂ => WP c σ₂ (eval value env) (fun v σ₃ => WP c σ₃ (inplaceOp op old v) (fun new σ₄ => WP c σ₄ (setAttr ov attr new) (fun _ σ₅ => qn σ₅)))))) :
    WS c σ env (.AugAssign (.Attribute o attr p1) op value pos) qn qr qb qc := by
  refine ⟨fun A h tk R S p₀ => ?_⟩
  refine wpAny_AugAssign_AttributeAny (H.runK R S p₀ ?_)
  rintro ov h1 tk1 σ1 S1 p1 H1
  refine H1.runK R S1 p1 ?_
  rintro old h2 tk2 σ2 S2 p2 H2
  refine H2.runK R S2 p2 ?_
  rintro v h3 tk3 σ3 S3 p3 H3
  refine H3.runK R S3 p3 ?_
  rintro new h4 tk4 σ4 S4 p4 H4
  exact wpAny_mono (H4.run A h4 tk4 R S4 p4) (fun _ _ p => p) fun _ _ e => e
theorem WP.drop {α : Type} {t : Sem α} {Q : α → Sg → Prop} (H : WP c σ t (fun v σ' => ∃ l : Led, l.Sublist σ'.news ∧ Q v ⟨σ'.vs, l⟩)) : WP c σ t Q := by
  refine ⟨fun A h tk R S p₀ => wpAny_mono (H.run A h tk R S p₀) ?_ fun _ _ e => e⟩
  refine Post.thru ?_
  rintro v h1 tk1 σ1 S1 p1 ⟨l, hl, hq⟩
  exact ⟨h1, tk1, ⟨σ1.vs, l⟩, rfl, S1.sub hl, p1, hq⟩
theorem WC.drop {k : Code} (H : WC c σ k (fun v σ' => ∃ l : Led, l.Sublist σ'.news ∧ Q v ⟨σ'.vs, l⟩)) : WC c σ k Q := by
  refine ⟨fun A h tk R S p₀ => codeAny_mono (H.run A h tk R S p₀) fun r s' z => ?_⟩
  rcases r with e | (v | _ | _ | _) <;> first | exact z.elim | skip
  obtain ⟨h1, tk1, σ1, rfl, S1, p1, l, hl, hq⟩ := z
  exact ⟨h1, tk1, ⟨σ1.vs, l⟩, rfl, S1.sub hl, p1, hq⟩
theorem WC.sub {k : Code} {vs l l'} (hl : List.Sublist l l') (H : WC c ⟨vs, l⟩ k Q) : WC c ⟨vs, l'⟩ k Q := ⟨fun A h tk R S p₀ => H.run A h tk R (S.sub hl) p₀⟩
theorem BW.tupDict {fd args} {Q : List (Str × Value) → Sg → Prop} (vs : List Value) (f : Value → Value → List (Str × Value)) (h : bindArgs fd args = (newTuple vs >>= fun v => (alloc { cls := .type "dict", data := .dict #[] } >>= fun d => pure (f v (.ref d))))) (hl : vs.length ≤ 4000000) (H : ∀ a b, Q (f (.ref a) (.ref b)) σ) : BW c σ fd args Q :=
  ⟨fun A h' tk S p => by
    rw [h]
    refine wpAny_bind (wpAny_newObj_type ?_ (by show vs.toArray.size ≤ sizeLine; rw [List.size_toArray, sizeLine_eq]; lia))
    have z1 := S.push { cls := .type "tuple", data := .seq vs.toArray } (tup vs) ⟨0, rfl⟩ rfl
    have z2 := z1.push { cls := .type "dict", data := .dict #[] } (fun _ => True) trivial rfl
    exact wpAny_bind (wpAny_alloc (wpAny_pure ⟨_, _, σ, rfl, z2.sub (.cons _ (.cons _ (.refl _))), p, H _ _⟩))⟩
theorem WP.int_int {i : Int} {t : Tok} (H : Q (.int i t) σ) : WP c σ (PySem.call (.type "int") [.int i t] []) Q := .of0 fun _ _ _ _ Z _ => call_int_int ⟨_, _, _, rfl, Z, H⟩
theorem ob_stub : Manifest.isStub "object" = false := by decide +kernel
theorem ob_find (w : World) : findCls (KK w) (.type "object") (.type "type") "__new__" = some (.val (.builtin "object.__new__")) := by kernel_rfl
theorem WP.objNew {pl : Sem Bool} {Q : Value × List Value → Sg → Prop} (H : Q (.builtin "object.__new__", []) σ) : WP c σ (getMethod (.type "object") "__new__" pl) Q := .of0 fun _ _ _ _ Z _ => by
  with_reducible refine method_type Z.fr c.base.k ?_ ob_stub (ob_find _) ?_ ?_
  · kernel_rfl
  · kernel_rfl
  · exact ⟨_, _, _, rfl, Z, H⟩
end
end Mine
end
section
set_option genInjectivity false
set_option genSizeOf false
set_option genCtorIdx false
set_option bootstrap.genMatcherCode false
open PySem PySem.W PyProof.Rows PySem.Calls PySem.Spec
set_option maxRecDepth 100000
set_option maxHeartbeats 4000000
set_option tactic.hygienic false
namespace Mine
open Builtin Builtin.Str in
theorem gives_find4 (x y : Str) (i j : Int) (t u v w : Tok) (hi : 0 ≤ i) (hj : 0 ≤ j) : Gives («str.find» ⟨[.str x t, .str y u, .int i v, .int j w], []⟩) (.int (match occurrences x y i.toNat (min j.toNat x.length) 1 with | k :: _ => (k : Int) | [] => -1)) := by
  show Gives (match occurrences x y (fromIndex x.length i) (min (fromIndex x.length j) x.length) 1 with | k :: _ => retInt k | [] => (do rule "str.find.not-found"; retInt (-1))) _
  have e1 : fromIndex x.length i = i.toNat := by unfold fromIndex; rw [if_neg (by lia)]; lia
  have e2 : fromIndex x.length j = j.toNat := by unfold fromIndex; rw [if_neg (by lia)]; lia
  rw [e1, e2]
  cases occurrences x y i.toNat (min j.toNat x.length) 1 with
  | nil => exact .rule (.of_eq rfl)
  | cons k _ => exact .of_eq rfl
open Builtin Builtin.Str in
theorem occ_line {b e f : T} {p d : Nat} (h : b.drop p = e ++ d :: f) (hn : d ∉ e) : ∃ r, occurrences (S b) (S [d]) p (S b).length 1 = (p + e.length) :: r := by
  have at_ : ∀ i, StrLaws.At (S b) (S [d]) (S b).length i ↔ b[i]? = some d := fun i => by
    have := StrLaws.subAt_one (S b) d i
    rw [S_cps] at this
    exact this
  have hg : ∀ k, b[p + k]? = (e ++ d :: f)[k]? := fun k => by rw [← h, List.getElem?_drop]
  rcases StrLaws.occ_head_from (S b) (S [d]) p 1 (Nat.le_refl _) with ⟨_, hno⟩ | ⟨i, r, he, hle, hA, hfirst⟩
  · exact absurd ((at_ _).mpr (by rw [hg]; simp)) (hno (p + e.length) (by lia))
  · refine ⟨r, ?_⟩
    have h1 := (at_ i).mp hA
    have h2 : ¬ i < p + e.length := fun hlt => by
      obtain ⟨k, rfl⟩ : ∃ k, i = p + k := ⟨i - p, by lia⟩
      rw [hg, List.getElem?_append_left (by lia)] at h1
      exact hn (List.mem_of_getElem? h1)
    have h3 : ¬ p + e.length < i := fun hlt => hfirst (p + e.length) (by lia) hlt ((at_ _).mpr (by rw [hg]; simp))
    rw [he]
    congr 1; lia
theorem St.perm {c : Cx} {vs} {l l' : Led} {h : Heap} (hp : l.Perm l') (Z : St c ⟨vs, l⟩ h) : St c ⟨vs, l'⟩ h := ⟨Z.fr, fun p hm => Z.nw p (hp.mem_iff.mpr hm), (hp.map (·.1)).nodup_iff.mp Z.nd⟩
theorem WC.perm {c : Cx} {k : Code} {Q : Value → Sg → Prop} {vs} {l l' : Led} (hp : l.Perm l') (H : WC c ⟨vs, l'⟩ k Q) : WC c ⟨vs, l⟩ k Q := ⟨fun A h tk R S p₀ => H.run A h tk R (S.perm hp) p₀⟩
theorem WP.perm {α : Type} {c : Cx} {t : Sem α} {Q : α → Sg → Prop} {vs} {l l' : Led} (hp : l.Perm l') (H : WP c ⟨vs, l'⟩ t Q) : WP c ⟨vs, l⟩ t Q := ⟨fun A h tk R S p₀ => H.run A h tk R (S.perm hp) p₀⟩
theorem WC.back {c : Cx} {k : Code} {σ : Sg} {Q : Value → Sg → Prop} (H : WC c σ k (fun v σ' => ∃ l : Led, σ'.news.Perm l ∧ Q v ⟨σ'.vs, l⟩)) : WC c σ k Q := by
  refine ⟨fun A h tk R S p₀ => codeAny_mono (H.run A h tk R S p₀) fun r s' z => ?_⟩
  rcases r with e | (v | _ | _ | _) <;> first | exact z.elim | skip
  obtain ⟨h1, tk1, σ1, rfl, S1, p1, l, hl, hq⟩ := z
  exact ⟨h1, tk1, ⟨σ1.vs, l⟩, rfl, S1.perm hl, p1, hq⟩
section
variable {c : Cx} {σ : Sg} {Q : Value → Sg → Prop} {a b e f : T} {t u v w : Tok} {d p : Nat} {i j : Int}
theorem WP.find4 (h : b.drop p = e ++ d :: f) (hn : d ∉ e) (H : ∀ t', Q (.int ((p + e.length : Nat) : Int) t') σ) :
    WP c σ (PySem.call (.builtin "str.find") [.str (S b) t, .str (S [d]) u, .int (p : Int) v, .int (b.length : Nat) w] []) Q := .of0 fun A _ _ _ Z _ => by
  refine call_gives PySem.F.slot_str_find (typeIs_str _ _ _) PySem.F.entry_str_find (PySem.F.args_str_find_4 _ _ _ _) (gives_find4 _ _ _ _ _ _ _ _ (by lia) (by lia)) ?_
  obtain ⟨r, hr⟩ := occ_line h hn
  have e1 : min ((b.length : Int)).toNat (S b).length = (S b).length := by rw [S_len]; lia
  have e2 : (p : Int).toNat = p := by lia
  rw [e1, e2, hr]
  exact ⟨_, _, _, rfl, Z, H _⟩
end
end Mine
end
section
set_option genInjectivity false
set_option genSizeOf false
set_option genCtorIdx false
set_option bootstrap.genMatcherCode false
open PySem PySem.W PyProof.Rows PySem.Calls PySem.Spec
set_option maxRecDepth 100000
set_option maxHeartbeats 4000000
set_option tactic.hygienic false
namespace Mine
section
variable {c : Cx} {σ : Sg} {Q : Value → Sg → Prop} {a b : T} {t u : Tok} {d : Nat}
theorem WP.in_str (H : Q (.bool (decide (d ∈ a))) σ) : WP c σ (compareOp .In (.str (S [d]) u) (.str (S a) t)) Q := .of0 fun _ _ _ _ Z _ => PyProof.Rows.in_str (by rw [in_S]; exact ⟨_, _, _, rfl, Z, H⟩)
theorem WP.notin_str (H : Q (.bool (!decide (d ∈ a))) σ) : WP c σ (compareOp .NotIn (.str (S [d]) u) (.str (S a) t)) Q := .of0 fun _ _ _ _ Z _ => PyProof.Rows.notIn_str (by rw [in_S]; exact ⟨_, _, _, rfl, Z, H⟩)
theorem WP.in_tup2 {q : Addr} {x a b : T} {t u v : Tok} (k : Kn c σ q (tup [.str (S a) u, .str (S b) v])) (H : Q (.bool (decide (a = x) || decide (b = x))) σ) : WP c σ (compareOp .In (.str (S x) t) (.ref q)) Q := .of0 fun _ _ _ _ Z _ => by
  obtain ⟨o, ho, n, rfl⟩ := Z.kn k
  refine PySem.SeqRoads2.in_tuple (fun y => match y with | .str s _ => s == S x | _ => false) (fun y hy => ?_) ho ?_
  · have : y = .str (S a) u ∨ y = .str (S b) v := by simpa using hy
    rcases this with rfl | rfl
    · exact eqGives_str _ _ _ _
    · exact eqGives_str _ _ _ _
  · refine ⟨_, _, _, rfl, Z, ?_⟩
    have : ([Value.str (S a) u, .str (S b) v].toArray.any fun y => match y with | .str s _ => s == S x | _ => false) = (decide (a = x) || decide (b = x)) := by
      simp [S_beq]
    rw [this]; exact H
end
end Mine
end
section
set_option genInjectivity false
set_option genSizeOf false
set_option genCtorIdx false
set_option bootstrap.genMatcherCode false
open PySem PySem.W PyProof.Rows PySem.Calls PySem.Spec
set_option maxRecDepth 100000
set_option maxHeartbeats 4000000
set_option tactic.hygienic false
namespace Mine
theorem slot_cdg : Slot "classmethod_descriptor" "__get__" "classmethod_descriptor.__get__" :=
  .of (owner := "classmethod_descriptor") (n := "__get__") (by rw [typeLookup_type, builtinLookup_eq_fast]; kernel_rfl) (by decide +kernel) (by decide +kernel) (by decide +kernel)
    (.inl (by rw [PySem.W.Fast.findY_eq]; kernel_rfl)) (by rw [isSubtype_type]; kernel_rfl)
theorem args_cdg (a b c : Value) : argsOk "classmethod_descriptor.__get__" ⟨[a, b, c], []⟩ := by unfold argsOk; rw [PySem.W.Fast.signatureY_eq, PySem.W.Fast.te16078263539434579649]; kernel_rfl
theorem fk_find (w : World) : findCls (KK w) (.type "dict") (.type "type") "fromkeys" = some (.get (.builtin "classmethod_descriptor.__get__") (.builtin "dict.fromkeys") .none (.type "dict")) := by kernel_rfl
section
variable {c : Cx} {σ : Sg}
theorem WP.fkM {pl : Sem Bool} {Q : Value × List Value → Sg → Prop} (H : ∀ u, Q (.ref u, []) ⟨σ.vs, (u, (· = fkObj)) :: σ.news⟩) : WP c σ (getMethod (.type "dict") "fromkeys" pl) Q := .of0 fun A h tk R Z p => by
  have X := Z.base.k
  have hstub : opaqueClassAbove (.type "dict") = pure none := by unfold opaqueClassAbove; dsimp only; rw [show Manifest.isStub "dict" = false by decide +kernel]; rfl
  have ht : typeOf (.type "dict") = pure (.type "type") := by first | rfl | kernel_rfl
  have L0 : Looks (model PR c.w) h (typeOf (.type "dict")) (.type "type") := Looks.of_pure ht
  have hg : findIn (KK c.w) (.type "type") "__getattribute__" = some (some (.builtin "type.__getattribute__")) := type_tga
  unfold getMethod specialOf
  refine wpAny_bind (wpAny_bind (L0.here ((looks_findIn X hg).here ?_)))
  dsimp only
  rw [if_pos canon_tga]
  refine wpAny_bind (wpAny_mono (Q := fun v => Post0 c Q (v, [])) (E := NoE) ?_ (fun _ _ z => wpAny_pure z) fun _ _ z => z)
  have LO : Looks (model PR c.w) h (opaqueClassAbove (.type "dict")) none := Looks.of_pure hstub
  refine cls_open X LO L0 hg (looks_hook X (r := none) (by rfl)) (by show subIn (KK c.w) _ _ = _; rfl) (fk_find _) ?_
  refine (?_ : wpAny _ _ (PySem.holding [.builtin "dict.fromkeys"] (PySem.call (.builtin "classmethod_descriptor.__get__") [.builtin "dict.fromkeys", .none, .type "dict"]) >>= fun v => PySem.ret v) _ _ _)
  refine wpAny_bind (wpAny_holding (wpAny_call_entry slot_cdg type_fk entry_cdg (fk_get ⟨_, rfl, wpAny_pure (wpAny_pure ?_)⟩) (args_cdg _ _ _)))
  exact ⟨_, _, _, rfl, Z.push fkObj (· = fkObj) rfl rfl, H _⟩
end
end Mine
end
section
set_option genInjectivity false
set_option genSizeOf false
set_option genCtorIdx false
set_option bootstrap.genMatcherCode false
open PySem PySem.W PyProof.Rows PySem.Calls PySem.Spec
set_option maxRecDepth 100000
set_option maxHeartbeats 4000000
set_option tactic.hygienic false
namespace Mine
noncomputable def sdct (w : World) (kvs : List (Str × Value)) (o : Obj) : Prop := ∃ es ep, o.ExactDict ∧ o.data = .dict es ep ∧ KeysOf (strKind PR w) es ∧ Pairs (strKind PR w) es.toList kvs ∧ (kvs.map (·.1)).Nodup
noncomputable def idct (w : World) (kvs : List (Int × Value)) (o : Obj) : Prop := ∃ es ep, o.ExactDict ∧ o.data = .dict es ep ∧ KeysOf (intKind PR w) es ∧ Pairs (intKind PR w) es.toList kvs ∧ (kvs.map (·.1)).Nodup
theorem mk_check (v : Value) : checkBuiltinCall "str.maketrans" ⟨[v], []⟩ = pure () := by rw [PySem.W.Fast.te10254737850608025244]; kernel_rfl
theorem mk_plain : plainId "str.maketrans" = true := by decide +kernel
theorem mk_entry : entryFor table "str.maketrans" = some Builtin.«str.maketrans» := entryFor_of_tree (by kernel_rfl)
section
variable {c : Cx} {σ : Sg} {pos : Pos} {Q : Value → Sg → Prop}
theorem WP.fkCall {u : Addr} {l : T} {t : Tok} (k : Kn c σ u (· = fkObj)) (hl : l.length ≤ 1000) (H : ∀ D, (D == sysModules) = false → Q (.ref D) ⟨σ.vs, (D, sdct c.w (kvsTo l)) :: σ.news⟩) : WP c σ (PySem.call (.ref u) [.str (S l) t] []) Q := .of0 fun A h tk R Z p => by
  obtain ⟨o, ho, rfl⟩ := Z.kn k
  refine fk_call ho (fk_run R.hd (by simpa [S] using hl) fun h' tk' D hDs hD hn hk => ?_)
  obtain ⟨o, es, ep, h1, h2⟩ := hD
  obtain ⟨mg, og, _, _, hg, _⟩ := Z.base.g
  have h3 : mainGlobals < h.objs.size := Heap.lt_size hg
  have h4 : (D == sysModules) = false := by
    rw [beq_eq_false_iff_ne, hDs]
    intro e
    dsimp only at e
    rw [e] at h3
    exact absurd h3 (by decide)
  exact ⟨h', tk', _, rfl, Z.add hk hn ⟨o, h1, es, ep, h2⟩, H D h4⟩
theorem WP.cwFk {u : Addr} {e env} {args : List PySem.Expr} (k : ∀ σ₁ : Sg, (∀ q ∈ σ.news, q ∈ σ₁.news) → Kn c σ₁ u (· = fkObj))
    (H : WP c σ (spliced (backTo pos (starEach (e :: args) env))) (fun vs σ₁ => Kn c σ₁ u (· = fkObj) ∧ WP c σ₁ (PySem.call (.ref u) vs []) Q)) (he : hPlain e = true := by with_unfolding_all rfl) (hp : (e :: args).all hPlain = true := by with_unfolding_all rfl) : WP c σ (callWith pos (.ref u) [] (backTo pos (starEach (e :: args) env)) []) Q := by
  refine ⟨fun A h tk R S p₀ => ?_⟩
  refine fk_callWith (backTo_none hp) ?_
  refine wpAny_mono (WP.args1 (Q := fun a σ₁ => a.kw = [] ∧ Kn c σ₁ u (· = fkObj) ∧ WP c σ₁ (PySem.call (.ref u) a.pos []) Q) R S p₀ he (H.mono fun _ _ h => ⟨rfl, h⟩)) ?_ fun _ _ e => e
  rintro ⟨ps, kw⟩ _ ⟨h1, tk1, σ1, rfl, S1, p1, rfl, k1, H1⟩
  obtain ⟨o, ho, rfl⟩ := S1.kn k1
  exact ⟨ho, H1.run A h1 tk1 R S1 p1⟩
theorem WP.maketrans {D : Addr} {kvs : List (Str × Value)} {cs : List Nat} (k : Kn c σ D (sdct c.w kvs)) (hone : kvs.map (·.1) = cs.map fun c => (⟨#[c]⟩ : Str)) (hn : cs.length ≤ 1000) (hsys : (D == sysModules) = false)
    (H : ∀ E tab, (E == sysModules) = false → (∀ p ∈ tab, ∃ d ∈ cs, p.1 = (d : Int)) → Q (.ref E) ⟨σ.vs, (E, idct c.w tab) :: σ.news⟩) : WP c σ (PySem.call (.builtin "str.maketrans") [.ref D] []) Q := .of0 fun A h tk R Z p => by
  obtain ⟨o, ho, es, ep, hr⟩ := Z.kn k
  refine wpAny_call (codeAny_call_builtin mk_plain mk_entry (wpAny_of_eq (mk_check _) ?_))
  refine maketrans_ok (s := ⟨h, c.g, c.d, tk, c.os⟩) ⟨o, es, ep, ho, hr⟩ hone hn hsys fun h' tk' E tab hEs hE hc hnone hk ht => ?_
  obtain ⟨mg, og, _, _, hg, _⟩ := Z.base.g
  have h3 : mainGlobals < h.objs.size := Heap.lt_size hg
  have h4 : (E == sysModules) = false := by
    rw [beq_eq_false_iff_ne, hEs]
    intro e
    dsimp only at e
    rw [e] at h3
    exact absurd h3 (by decide)
  obtain ⟨o2, es2, ep2, h1, h2⟩ := hE
  exact ⟨h', tk', _, rfl, Z.add hk hnone ⟨o2, h1, es2, ep2, h2⟩, H E tab h4 hc⟩
end
end Mine
end
section
set_option genInjectivity false
set_option genSizeOf false
set_option genCtorIdx false
set_option bootstrap.genMatcherCode false
open PySem PySem.W PyProof.Rows PySem.Calls PySem.Spec
set_option maxRecDepth 100000
set_option maxHeartbeats 4000000
set_option tactic.hygienic false
namespace Mine
section
variable {c : Cx} {σ : Sg} {Q : Value → Sg → Prop}
theorem WP.translate {D : Addr} {tab : List (Int × Value)} {cs : List Nat} {l : T} {t : Tok} (k : Kn c σ D (idct c.w tab)) (hc : ∀ p ∈ tab, ∃ d ∈ cs, p.1 = (d : Int)) (hno : ∀ x ∈ l, x ∉ cs) (hl : l ≠ []) (hn : l.length ≤ 1000) (hf : l.all (· < 128) = false) (hsys : (D == sysModules) = false)
    (H : ∀ u, Q (.str (S l) u) σ) : WP c σ (PySem.call (.builtin "str.translate") [.str (S l) t, .ref D] []) Q := .of0 fun A h tk R Z p => by
  obtain ⟨o, ho, es, ep, hr⟩ := Z.kn k
  have hD : h.DictOf (intKind PR c.w) D tab := ⟨o, es, ep, ho, hr⟩
  refine wpAny_call_entry PySem.F.slot_str_translate (typeIs_str _ _ _) PySem.F.entry_str_translate ?_ (PySem.F.args_str_translate_2 _ _)
  refine translate_keep (s := ⟨h, c.g, c.d, tk, c.os⟩) (l := l) (by simpa using R.hd) hD.mapOf hsys (fun x hx => ?_) hl hn hf fun h' tk' u hk ht => ?_
  · unfold valueAt
    have : tab.find? (fun kv => decide (kv.1 = (x : Int))) = none := by
      rw [List.find?_eq_none]
      intro p hp
      obtain ⟨d, hd, e⟩ := hc p hp
      have : p.1 ≠ (x : Int) := fun q => hno x hx (by
        have : d = x := by lia
        rw [← this]; exact hd)
      simpa using this
    rw [this]; rfl
  · exact ⟨_, rfl, h', tk', σ, rfl, Z.ext hk, H u⟩
end
end Mine
end
section
set_option genInjectivity false
set_option genSizeOf false
set_option genCtorIdx false
set_option bootstrap.genMatcherCode false
open PySem PySem.W PyProof.Rows PySem.Calls PySem.Spec
set_option maxRecDepth 100000
set_option maxHeartbeats 4000000
set_option tactic.hygienic false
namespace Mine
section
variable {c : Cx} {σ : Sg} {Q : Value → Sg → Prop}
theorem WP.mkM {x : Str} {t : Tok} {pl : Sem Bool} {Q : Value × List Value → Sg → Prop} (H : Q (.builtin "str.maketrans", []) σ) : WP c σ (getMethod (.str x t) "maketrans" pl) Q := .of0 fun A h tk R Z p => by
  with_reducible refine mk_getMethod ?_
  exact fun tk' _ => ⟨h, tk', σ, rfl, Z, H⟩
end
end Mine
end
section
set_option genInjectivity false
set_option genSizeOf false
set_option genCtorIdx false
set_option bootstrap.genMatcherCode false
open PySem PySem.W PyProof.Rows PySem.Calls PySem.Spec
set_option maxRecDepth 100000
set_option maxHeartbeats 4000000
set_option tactic.hygienic false
namespace Mine
noncomputable def shAs (qi qp qs qc : Addr) (wc : T) (ts : Nat → Tok) (st tok : Value) (ws : Bool) (line : Value) : List (Str × Value) :=
  [("instream", .ref qi), ("infile", .none), ("posix", .bool true), ("eof", .none), ("commenters", .str (S (tx "#")) (ts 0)), ("wordchars", .str (S wc) (ts 1)), ("whitespace", .str (S (tx " \t\r\n")) (ts 2)),
    ("whitespace_split", .bool ws), ("quotes", .str (S (tx "'\"")) (ts 3)), ("escape", .str (S (tx "\\")) (ts 4)), ("escapedquotes", .str (S (tx "\"")) (ts 5)), ("state", st), ("pushback", .ref qp), ("lineno", line), ("debug", .int 0 (ts 6)),
    ("token", tok), ("filestack", .ref qs), ("source", .none), ("_punctuation_chars", .str (S (tx "{,}")) (ts 7)), ("_pushback_chars", .ref qc)]
structure ShA (name : Str) (w : Value) (as : List (Str × Value)) : Prop where
  m : name ∈ shNames
  a : AtAt name w as
  h : handedIn w = true
structure ShU (name : Str) (w : Value) (as as' : List (Str × Value)) : Prop where
  m : name ∈ shNames
  a : AtSet name w as as'
  h : as'.length ≤ 1000
section
variable {qi qp qs qc : Addr} {wc : T} {ts : Nat → Tok} {st tok v : Value} {ws b : Bool} {line : Value}
local macro_rules | `(tactic| walk_at "q_at") => `(tactic| focus ((repeat (first | exact AtAt.head | (apply AtAt.tail; (focus (with_unfolding_all rfl))))); done))
local macro_rules | `(tactic| walk_at "q_as") => `(tactic| focus ((repeat (first | exact AtSet.head | exact AtSet.nil | (apply AtSet.tail; (focus (with_unfolding_all rfl))))); done))
local macro_rules | `(tactic| walk_at "q_sa") => `(tactic| exact ⟨by with_unfolding_all decide, by (unfold shAs; walk_at "q_at"), by first | assumption | with_unfolding_all rfl⟩)
local macro_rules | `(tactic| walk_at "q_su") => `(tactic| exact ⟨by with_unfolding_all decide, by (unfold shAs; walk_at "q_as"), by show (20 : Nat) ≤ 1000; decide⟩)
theorem sa_instream : ShA "instream" (.ref qi) (shAs qi qp qs qc wc ts st tok ws line) := by walk_at "q_sa"
theorem sa_posix : ShA "posix" (.bool true) (shAs qi qp qs qc wc ts st tok ws line) := by walk_at "q_sa"
theorem sa_eof : ShA "eof" .none (shAs qi qp qs qc wc ts st tok ws line) := by walk_at "q_sa"
theorem sa_commenters : ShA "commenters" (.str (S (tx "#")) (ts 0)) (shAs qi qp qs qc wc ts st tok ws line) := by walk_at "q_sa"
theorem sa_wordchars : ShA "wordchars" (.str (S wc) (ts 1)) (shAs qi qp qs qc wc ts st tok ws line) := by walk_at "q_sa"
theorem sa_whitespace : ShA "whitespace" (.str (S (tx " \t\r\n")) (ts 2)) (shAs qi qp qs qc wc ts st tok ws line) := by walk_at "q_sa"
theorem sa_ws : ShA "whitespace_split" (.bool ws) (shAs qi qp qs qc wc ts st tok ws line) := by walk_at "q_sa"
theorem sa_quotes : ShA "quotes" (.str (S (tx "'\"")) (ts 3)) (shAs qi qp qs qc wc ts st tok ws line) := by walk_at "q_sa"
theorem sa_escape : ShA "escape" (.str (S (tx "\\")) (ts 4)) (shAs qi qp qs qc wc ts st tok ws line) := by walk_at "q_sa"
theorem sa_escapedquotes : ShA "escapedquotes" (.str (S (tx "\"")) (ts 5)) (shAs qi qp qs qc wc ts st tok ws line) := by walk_at "q_sa"
theorem sa_state (h : handedIn st = true) : ShA "state" st (shAs qi qp qs qc wc ts st tok ws line) := by walk_at "q_sa"
theorem sa_pushback : ShA "pushback" (.ref qp) (shAs qi qp qs qc wc ts st tok ws line) := by walk_at "q_sa"
theorem sa_lineno (h : handedIn line = true) : ShA "lineno" line (shAs qi qp qs qc wc ts st tok ws line) := by walk_at "q_sa"
theorem sa_debug : ShA "debug" (.int 0 (ts 6)) (shAs qi qp qs qc wc ts st tok ws line) := by walk_at "q_sa"
theorem sa_token (h : handedIn tok = true) : ShA "token" tok (shAs qi qp qs qc wc ts st tok ws line) := by walk_at "q_sa"
theorem sa_filestack : ShA "filestack" (.ref qs) (shAs qi qp qs qc wc ts st tok ws line) := by walk_at "q_sa"
theorem sa_source : ShA "source" .none (shAs qi qp qs qc wc ts st tok ws line) := by walk_at "q_sa"
theorem sa_pchars : ShA "_punctuation_chars" (.str (S (tx "{,}")) (ts 7)) (shAs qi qp qs qc wc ts st tok ws line) := by walk_at "q_sa"
theorem sa_pushed : ShA "_pushback_chars" (.ref qc) (shAs qi qp qs qc wc ts st tok ws line) := by walk_at "q_sa"
theorem su_state : ShU "state" v (shAs qi qp qs qc wc ts st tok ws line) (shAs qi qp qs qc wc ts v tok ws line) := by walk_at "q_su"
theorem su_token : ShU "token" v (shAs qi qp qs qc wc ts st tok ws line) (shAs qi qp qs qc wc ts st v ws line) := by walk_at "q_su"
theorem su_lineno : ShU "lineno" v (shAs qi qp qs qc wc ts st tok ws line) (shAs qi qp qs qc wc ts st tok ws v) := by walk_at "q_su"
theorem su_ws : ShU "whitespace_split" (.bool b) (shAs qi qp qs qc wc ts st tok ws line) (shAs qi qp qs qc wc ts st tok b line) := by walk_at "q_su"
theorem sn_get_token : AtNo "get_token" (shAs qi qp qs qc wc ts st tok ws line) := by unfold shAs; repeat (first | exact AtNo.nil | (apply AtNo.cons; (focus (with_unfolding_all rfl))))
theorem sn_read_token : AtNo "read_token" (shAs qi qp qs qc wc ts st tok ws line) := by unfold shAs; repeat (first | exact AtNo.nil | (apply AtNo.cons; (focus (with_unfolding_all rfl))))
end
section
variable {c : Cx} {σ : Sg} {Q : Value → Sg → Prop} {q dx : Addr} {as as' : List (Str × Value)} {name : Str} {w : Value}
theorem WP.shGet {e : Bool} (k1 : Kn c σ q (inst 835 dx)) (k2 : Kn c σ dx (dct as)) (s : ShA name w as) (H : Q w σ) : WP c σ (getAttr (.ref q) name e) Q := .getA (C := 835) (sh_get _) k1 k2 s.m s.a s.h H
theorem WP.shSet {l' : Led} {vs} {news : Led} {Q : Unit → Sg → Prop} (k1 : Kn c ⟨vs, news⟩ q (inst 835 dx)) (u : LedSet dx (dct as) (dct as') news l') (s : ShU name w as as') (H : Q () ⟨vs, l'⟩) : WP c ⟨vs, news⟩ (setAttr (.ref q) name w) Q := .setA (C := 835) (sh_set _) k1 u s.m s.a s.h H
theorem sh_m1 : (("get_token" : Str), (796 : Addr)) ∈ shMeths := .head _
theorem sh_m2 : (("read_token" : Str), (803 : Addr)) ∈ shMeths := .tail _ (.head _)
theorem WP.shGetTok {pl : Sem Bool} {Q : Value × List Value → Sg → Prop} (k1 : Kn c σ q (inst 835 dx)) (k2 : Kn c σ dx (dct as)) (ha : AtNo "get_token" as) (H : Q (.ref 796, [.ref q]) σ) : WP c σ (getMethod (.ref q) "get_token" pl) Q := .meth (C := 835) (sh_meth _) k1 k2 sh_m1 ha H
theorem WP.shReadTok {pl : Sem Bool} {Q : Value × List Value → Sg → Prop} (k1 : Kn c σ q (inst 835 dx)) (k2 : Kn c σ dx (dct as)) (ha : AtNo "read_token" as) (H : Q (.ref 803, [.ref q]) σ) : WP c σ (getMethod (.ref q) "read_token" pl) Q := .meth (C := 835) (sh_meth _) k1 k2 sh_m2 ha H
end
end Mine
end
section
set_option genInjectivity false
set_option genSizeOf false
set_option genCtorIdx false
set_option bootstrap.genMatcherCode false
open PySem PySem.W PyProof.Rows PySem.Calls PySem.Spec
set_option maxRecDepth 100000
set_option maxHeartbeats 4000000
set_option tactic.hygienic false
namespace Mine
section
variable {c : Cx} {σ : Sg} {env : Env} {pos : Pos} {Q : Value → Sg → Prop}
theorem WP.xCallKw {n np args} {kw : Keyword} {kws : List Keyword} (H : WP c σ (eval (.Name n np) env) (fun f σ₁ => WP c σ₁ (callWith pos f [] (backTo pos (starEach args env)) (backToKw pos (keywordEach (kw :: kws) env))) Q)) : WP c σ (eval (.Call (.Name n np) args (kw :: kws) pos) env) Q := by
  have e : eval (.Call (.Name n np) args (kw :: kws) pos) env = (eval (.Name n np) env >>= fun f => callWith pos f [] (backTo pos (starEach args env)) (backToKw pos (keywordEach (kw :: kws) env))) := rfl
  rw [e]
  exact .bnd H
theorem WP.cwCls2 {C : Addr} {e v1 v2 : PySem.Expr} {k1 k2 : Str} {p1 p2 : Pos} (hk : keepIn (KK c.w) (.ref C) = true)
    (H : WP c σ (eval e env) (fun a σ₁ => WP c σ₁ (eval v1 env) (fun x σ₂ => WP c σ₂ (eval v2 env) (fun y σ₃ => WC c σ₃ (.call (.ref C) ⟨[a], [(k1, x), (k2, y)]⟩) Q)))) (he : hPlain e = true := by with_unfolding_all rfl) :
    WP c σ (callWith pos (.ref C) [] (backTo pos (starEach [e] env)) (backToKw pos (keywordEach [⟨some k1, v1, p1⟩, ⟨some k2, v2, p2⟩] env))) Q := by
  refine ⟨fun A h tk R S p₀ => ?_⟩
  refine callWith_of (P := (KK c.w).In) (by rw [backTo_none (by simpa using he)]; rfl) (keeps_K hk) ?_
  refine evalArgs_kw2 (by rfl) ?_ (star_plain he)
  refine spliced_more (H.runK R S p₀ ?_) (star_plain he)
  rintro a h1 tk1 σ1 S1 p1 H1
  refine spliced_none ?_
  refine kwAll_cons (H1.runK R S1 p1 ?_)
  rintro x h2 tk2 σ2 S2 p2 H2
  refine kwAll_cons (H2.runK R S2 p2 ?_)
  rintro y h3 tk3 σ3 S3 p3 H3
  refine kwAll_nil ?_
  exact ⟨S3.base.k, (WP.callC H3).run A h3 tk3 R S3 p3⟩
end
end Mine
end
section
set_option genInjectivity false
set_option genSizeOf false
set_option genCtorIdx false
set_option bootstrap.genMatcherCode false
open PySem PySem.W PyProof.Rows PySem.Calls PySem.Spec
set_option maxRecDepth 100000
set_option maxHeartbeats 4000000
set_option tactic.hygienic false
namespace Mine
theorem WP.eq_str_none {c : Cx} {σ : Sg} {Q : Value → Sg → Prop} {x : Str} {t : Tok} (H : Q (.bool false) σ) : WP c σ (compareOp .Eq (.str x t) .none) Q := .of0 fun _ _ _ _ Z _ => PySem.EqNone.eq_str_none ⟨_, _, _, rfl, Z, H⟩
theorem WP.eq_none_none {c : Cx} {σ : Sg} {Q : Value → Sg → Prop} (H : Q (.bool true) σ) : WP c σ (compareOp .Eq .none .none) Q := .of0 fun _ _ _ _ Z _ => PySem.EqNone.eq_none_none ⟨_, _, _, rfl, Z, H⟩
inductive Is : Bool → Prop
  | mk : Is true
theorem Is.e {b : Bool} (h : Is b) : b = true := by cases h; rfl
structure EvV (c : Cx) (σ : Sg) (e : PySem.Expr) (v : Value) : Prop where
  go : ∀ {Q : Value → Sg → Prop}, Q v σ → WP c σ (eval e c.env) Q
structure EvS (c : Cx) (σ : Sg) (e : PySem.Expr) (s : T) : Prop where
  go : ∀ {Q : Value → Sg → Prop}, (∀ t, Q (.str (S s) t) σ) → WP c σ (eval e c.env) Q
structure EvI (c : Cx) (σ : Sg) (e : PySem.Expr) (i : Int) : Prop where
  go : ∀ {Q : Value → Sg → Prop}, (∀ t, Q (.int i t) σ) → WP c σ (eval e c.env) Q
structure EvL (c : Cx) (σ : Sg) (es : List PySem.Expr) (vs : List Value) : Prop where
  go : ∀ {Q : List Value → Sg → Prop} {pos : Pos}, Q vs σ → WP c σ (spliced (backTo pos (starEach es c.env))) Q
structure TB (c : Cx) (σ : Sg) (e : PySem.Expr) (b : Bool) : Prop where
  go : ∀ {qt qf : Sg → Prop}, BR b (qt σ) (qf σ) → WB c σ c.env e qt qf
structure Tr (c : Cx) (σ : Sg) (v : Value) (b : Bool) : Prop where
  go : ∀ {Q : Bool → Sg → Prop}, Q b σ → WP c σ (truthy v) Q
structure TT (c : Cx) (σ : Sg) (e : PySem.Expr) : Prop where
  go : ∀ {qt qf : Sg → Prop}, qt σ → WB c σ c.env e qt qf
structure TF (c : Cx) (σ : Sg) (e : PySem.Expr) : Prop where
  go : ∀ {qt qf : Sg → Prop}, qf σ → WB c σ c.env e qt qf
section
variable {c : Cx} {σ : Sg} {ns : List Str} {gs : List (Str × Value)} {pos p1 np : Pos} {x n attr : Str} {v w : Value} {vs vs' : List (Option Value)} {l l' : Led} {e l1 r1 test : PySem.Expr} {a b s : T} {i j : Int} {t u : Tok} {q dx : Addr} {as as' : List (Str × Value)} {bb b2 : Bool}
theorem EvV.ld (D : EnvOk c ns gs) (hs : SlotAt x v ns vs) : EvV c ⟨vs, l⟩ (.Name x pos) v := ⟨WP.ld D hs⟩
theorem EvV.gl (D : EnvOk c ns gs) (hs : GAt x v gs) : EvV c σ (.Name x pos) v := ⟨WP.gl D hs⟩
theorem EvV.kN {k} : EvV c σ (.Constant .none k pos) .none := ⟨WP.kNone⟩
theorem EvV.kB {k} : EvV c σ (.Constant (.bool bb) k pos) (.bool bb) := ⟨WP.kBool⟩
theorem EvV.sh (D : EnvOk c ns gs) (hs : SlotAt n (.ref q) ns vs) (k1 : Kn c ⟨vs, l⟩ q (inst 835 dx)) (k2 : Kn c ⟨vs, l⟩ dx (dct as)) (h : ShA attr w as) : EvV c ⟨vs, l⟩ (.Attribute (.Name n np) attr pos) w :=
  ⟨fun H => WP.xAttrN (WP.ld D hs (WP.shGet k1 k2 h H))⟩
theorem EvV.io (D : EnvOk c ns gs) (hs : SlotAt n (.ref q) ns vs) (k1 : Kn c ⟨vs, l⟩ q (inst 700 dx)) (k2 : Kn c ⟨vs, l⟩ dx (dct as)) (hm : Is (decide (attr ∈ ioNames))) (ha : AtAt attr w as) (hv : Is (handedIn w)) : EvV c ⟨vs, l⟩ (.Attribute (.Name n np) attr pos) w :=
  ⟨fun H => WP.xAttrN (WP.ld D hs (WP.getA (C := 700) (io_get _) k1 k2 (of_decide_eq_true hm.e) ha hv.e H))⟩
theorem EvS.k {s : String} {k} : EvS c σ (.Constant (.str (Str.ofString s)) k pos) (tx s) := ⟨WP.kX⟩
theorem EvS.of (h : EvV c σ e (.str (S s) t)) : EvS c σ e s := ⟨fun H => h.go (H t)⟩
theorem EvS.add (h1 : EvS c σ l1 a) (h2 : EvS c σ r1 b) (hz : a.length + b.length ≤ 4000000) : EvS c σ (.BinOp l1 .Add r1 pos) (a ++ b) := ⟨fun H => WP.xBin (h1.go fun _ => h2.go fun _ => WP.add_str hz H)⟩
theorem EvI.k {k} : EvI c σ (.Constant (.int i) k pos) i := ⟨WP.kInt⟩
theorem EvI.of (h : EvV c σ e (.int i t)) : EvI c σ e i := ⟨fun H => h.go (H t)⟩
theorem EvI.add (h1 : EvI c σ l1 i) (h2 : EvI c σ r1 j) : EvI c σ (.BinOp l1 .Add r1 pos) (i + j) := ⟨fun H => WP.xBin (h1.go fun _ => h2.go fun _ => WP.add_int H)⟩
theorem EvI.sub (h1 : EvI c σ l1 i) (h2 : EvI c σ r1 j) : EvI c σ (.BinOp l1 .Sub r1 pos) (i - j) := ⟨fun H => WP.xBin (h1.go fun _ => h2.go fun _ => WP.sub_int H)⟩
theorem EvI.neg (h : EvI c σ e i) : EvI c σ (.UnaryOp .USub e pos) (-i) := ⟨fun H => WP.xUnary (h.go fun _ => WP.neg_int H)⟩
theorem EvI.len (D : EnvOk c ns gs) (hg : GAt "len" (.builtin "len") gs) (h : EvS c σ e a) (hz : a.length ≤ 4000000) (he : Is (hPlain e)) : EvI c σ (.Call (.Name "len" np) [e] [] pos) (a.length : Nat) :=
  ⟨fun H => WP.xCall (WP.gl D hg (WP.cwB_0 (WP.sp1 (h.go fun _ => WP.sp0 (WP.len_str hz H)) he.e) he.e (by simp [he.e])))⟩
theorem EvL.nil : EvL c σ [] [] := ⟨fun H => WP.sp0 H⟩
theorem EvL.cons {es vs} (h : EvV c σ e v) (he : Is (hPlain e)) (hs : EvL c σ es vs) : EvL c σ (e :: es) (v :: vs) := ⟨fun H => WP.sp1 (h.go (hs.go H)) he.e⟩
theorem WP.callD {es vs} {e0 : PySem.Expr} {f : Addr} {Q : Value → Sg → Prop} (D : EnvOk c ns gs) (hg : GAt n (.ref f) gs) (hf : IsFn c.w f) (hs : EvL c σ (e0 :: es) vs) (he : Is (hPlain e0)) (H : WC c σ (.call (.ref f) ⟨vs, []⟩) Q) : WP c σ (eval (.Call (.Name n np) (e0 :: es) [] pos) c.env) Q :=
  WP.xCall (WP.gl D hg (WP.cwI_0 hf (hs.go H) he.e))
theorem WP.ifT {body orelse} {Q : Value → Sg → Prop} (h : TT c σ test) (H : WP c σ (eval body c.env) Q) : WP c σ (eval (.IfExp test body orelse pos) c.env) Q := WP.xIf (h.go H)
theorem WP.ifF {body orelse} {Q : Value → Sg → Prop} (h : TF c σ test) (H : WP c σ (eval orelse c.env) Q) : WP c σ (eval (.IfExp test body orelse pos) c.env) Q := WP.xIf (h.go H)

theorem TT.mk' (h : TB c σ e bb) (hb : bb = true) : TT c σ e := ⟨fun H => h.go (BR.t hb H)⟩
theorem TF.mk' (h : TB c σ e bb) (hb : bb = false) : TF c σ e := ⟨fun H => h.go (BR.f hb H)⟩
theorem TB.leaf (h : EvV c σ e v) (k : Tr c σ v bb) (he : Is (hLeaf e)) : TB c σ e bb := ⟨fun H => WB.leaf (h.go (k.go H)) he.e⟩
theorem Tr.bo : Tr c σ (.bool bb) bb := ⟨fun H => WP.tbool H⟩
theorem Tr.no : Tr c σ .none false := ⟨fun H => WP.tnone H⟩
theorem Tr.st (hz : a.length ≤ 4000000) : Tr c σ (.str (S a) t) (!decide (a = [])) := ⟨fun H => WP.tS hz H⟩
theorem Tr.dq {xs : List Value} (k : Kn c σ q (dq xs)) (hn : xs.length < 100000) : Tr c σ (.ref q) (!xs.isEmpty) := ⟨fun H => WP.dqTruth k hn H⟩
theorem TB.cmp {op} {r : Bool} {v w : Value} (h1 : EvV c σ l1 v) (h2 : EvV c σ r1 w) (h : ∀ {Q : Value → Sg → Prop}, Q (.bool r) σ → WP c σ (compareOp op v w) Q) (hm : Is (hNoSet r1)) : TB c σ (.Compare l1 [op] [r1] pos) r :=
  ⟨fun H => WB.cmp (h1.go (h2.go (h (WP.tbool H)))) hm.e⟩
theorem TB.isN (h1 : EvV c σ l1 v) (h2 : EvV c σ r1 .none) (hm : Is (hNoSet r1)) : TB c σ (.Compare l1 [.Is] [r1] pos) (v == .none) := .cmp h1 h2 (fun H => WP.is_none H) hm
theorem TB.isntN (h1 : EvV c σ l1 v) (h2 : EvV c σ r1 .none) (hm : Is (hNoSet r1)) : TB c σ (.Compare l1 [.IsNot] [r1] pos) (!(v == .none)) := .cmp h1 h2 (fun H => WP.isnot_none H) hm
theorem TB.eqSN {x : Str} (h1 : EvV c σ l1 (.str x t)) (h2 : EvV c σ r1 .none) (hm : Is (hNoSet r1)) : TB c σ (.Compare l1 [.Eq] [r1] pos) false := .cmp h1 h2 (fun H => WP.eq_str_none H) hm
theorem TB.eqNN (h1 : EvV c σ l1 .none) (h2 : EvV c σ r1 .none) (hm : Is (hNoSet r1)) : TB c σ (.Compare l1 [.Eq] [r1] pos) true := .cmp h1 h2 (fun H => WP.eq_none_none H) hm
theorem TB.cmpS {op} {r : Bool} (h1 : EvS c σ l1 a) (h2 : EvS c σ r1 b) (h : ∀ {t u} {Q : Value → Sg → Prop}, Q (.bool r) σ → WP c σ (compareOp op (.str (S a) t) (.str (S b) u)) Q) (hm : Is (hNoSet r1)) : TB c σ (.Compare l1 [op] [r1] pos) r :=
  ⟨fun H => WB.cmp (h1.go fun _ => h2.go fun _ => h (WP.tbool H)) hm.e⟩
theorem TB.eqS (h1 : EvS c σ l1 a) (h2 : EvS c σ r1 b) (hm : Is (hNoSet r1)) : TB c σ (.Compare l1 [.Eq] [r1] pos) (decide (a = b)) := .cmpS h1 h2 (fun H => WP.eq_str H) hm
theorem TB.neS (h1 : EvS c σ l1 a) (h2 : EvS c σ r1 b) (hm : Is (hNoSet r1)) : TB c σ (.Compare l1 [.NotEq] [r1] pos) (!decide (a = b)) := .cmpS h1 h2 (fun H => WP.ne_str H) hm
theorem TB.inS {d : Nat} (h1 : EvS c σ l1 [d]) (h2 : EvS c σ r1 b) (hm : Is (hNoSet r1)) : TB c σ (.Compare l1 [.In] [r1] pos) (decide (d ∈ b)) := .cmpS h1 h2 (fun H => WP.in_str H) hm
theorem TB.ninS {d : Nat} (h1 : EvS c σ l1 [d]) (h2 : EvS c σ r1 b) (hm : Is (hNoSet r1)) : TB c σ (.Compare l1 [.NotIn] [r1] pos) (!decide (d ∈ b)) := .cmpS h1 h2 (fun H => WP.notin_str H) hm
theorem TB.cmpI {op} {r : Bool} (h1 : EvI c σ l1 i) (h2 : EvI c σ r1 j) (h : ∀ {t u} {Q : Value → Sg → Prop}, Q (.bool r) σ → WP c σ (compareOp op (.int i t) (.int j u)) Q) (hm : Is (hNoSet r1)) : TB c σ (.Compare l1 [op] [r1] pos) r :=
  ⟨fun H => WB.cmp (h1.go fun _ => h2.go fun _ => h (WP.tbool H)) hm.e⟩
theorem TB.eqI (h1 : EvI c σ l1 i) (h2 : EvI c σ r1 j) (hm : Is (hNoSet r1)) : TB c σ (.Compare l1 [.Eq] [r1] pos) (i == j) := .cmpI h1 h2 (fun H => WP.eq_int H) hm
theorem TB.neI (h1 : EvI c σ l1 i) (h2 : EvI c σ r1 j) (hm : Is (hNoSet r1)) : TB c σ (.Compare l1 [.NotEq] [r1] pos) (i != j) := .cmpI h1 h2 (fun H => WP.ne_int H) hm
theorem TB.ltI (h1 : EvI c σ l1 i) (h2 : EvI c σ r1 j) (hm : Is (hNoSet r1)) : TB c σ (.Compare l1 [.Lt] [r1] pos) (decide (i < j)) := .cmpI h1 h2 (fun H => WP.lt_int H) hm
theorem TB.gtI (h1 : EvI c σ l1 i) (h2 : EvI c σ r1 j) (hm : Is (hNoSet r1)) : TB c σ (.Compare l1 [.Gt] [r1] pos) (decide (j < i)) := .cmpI h1 h2 (fun H => WP.gt_int H) hm
theorem TB.leI (h1 : EvI c σ l1 i) (h2 : EvI c σ r1 j) (hm : Is (hNoSet r1)) : TB c σ (.Compare l1 [.LtE] [r1] pos) (decide (i ≤ j)) := .cmpI h1 h2 (fun H => WP.le_int H) hm
theorem TB.geI (h1 : EvI c σ l1 i) (h2 : EvI c σ r1 j) (hm : Is (hNoSet r1)) : TB c σ (.Compare l1 [.GtE] [r1] pos) (decide (j ≤ i)) := .cmpI h1 h2 (fun H => WP.ge_int H) hm
theorem TB.in2 {s1 s2 : String} {k1 k2 k3 p2 p3 p4} (h : EvS c σ l1 a) : TB c σ (.Compare l1 [.In] [.Tuple [.Constant (.str (Str.ofString s1)) k1 p2, .Constant (.str (Str.ofString s2)) k2 p3] k3 p4] pos) (decide (tx s1 = a) || decide (tx s2 = a)) :=
  ⟨fun H => WB.cmp (h.go fun _ => WP.xTuple (WP.sp2X fun _ _ _ _ _ => WP.nTuple (by simp) fun _ => .drop (.in_tup2 (.led .head) ⟨_, .cons _ (.refl _), WP.tbool H⟩))) (by rfl)⟩
theorem BR.not {p q : Prop} (H : BR (!bb) p q) : BR bb q p := by
  cases bb
  · exact BR.f rfl (H.1 rfl)
  · exact BR.t rfl (H.2 rfl)
theorem TB.not (h : TB c σ e bb) : TB c σ (.UnaryOp .Not e pos) (!bb) := ⟨fun H => WB.not (h.go H.not)⟩
theorem TB.andT {rest} (h : TT c σ e) (h2 : TB c σ (.BoolOp .And rest pos) bb) : TB c σ (.BoolOp .And (e :: rest) pos) bb := ⟨fun H => WB.and (h.go (h2.go H))⟩
theorem TB.andF {rest} (h : TF c σ e) : TB c σ (.BoolOp .And (e :: rest) pos) false := ⟨fun H => WB.and (h.go (H.2 rfl))⟩
theorem TB.and0 : TB c σ (.BoolOp .And [] pos) true := ⟨fun H => WB.and0 (H.1 rfl)⟩
theorem TB.orF {rest} (h : TF c σ e) (h2 : TB c σ (.BoolOp .Or rest pos) bb) : TB c σ (.BoolOp .Or (e :: rest) pos) bb := ⟨fun H => WB.or (h.go (h2.go H))⟩
theorem TB.orT {rest} (h : TT c σ e) : TB c σ (.BoolOp .Or (e :: rest) pos) true := ⟨fun H => WB.or (h.go (H.1 rfl))⟩
theorem TB.or0 : TB c σ (.BoolOp .Or [] pos) false := ⟨fun H => WB.or0 (H.2 rfl)⟩
end
section
variable {c : Cx} {σ : Sg} {ns : List Str} {gs : List (Str × Value)} {pos p1 np : Pos} {x n attr : Str} {v w : Value} {vs vs' : List (Option Value)} {l l' : Led} {e test : PySem.Expr} {s : T} {i : Int} {q dx : Addr} {as as' : List (Str × Value)} {qn qb qc : Sg → Prop} {qr : Value → Sg → Prop} {body orelse rest : List Stmt}
theorem WL.mono {env sts} {qn' : Sg → Prop} (H : WL c σ env sts qn' qr qb qc) (h : ∀ s, qn' s → qn s) : WL c σ env sts qn qr qb qc := WP.mono H fun f s k => by cases f <;> first | exact h _ k | exact k
structure IfB (b : Bool) (c : Cx) (σ : Sg) (body orelse rest : List Stmt) (qn : Sg → Prop) (qr : Value → Sg → Prop) (qb qc : Sg → Prop) : Prop where
  br : BR b (WL c σ c.env body (fun σ' => WL c σ' c.env rest qn qr qb qc) qr qb qc) (WL c σ c.env orelse (fun σ' => WL c σ' c.env rest qn qr qb qc) qr qb qc)
theorem WL.iff {b : Bool} (h : TB c σ test b) (H : IfB b c σ body orelse rest qn qr qb qc) : WL c σ c.env (.If test body orelse pos :: rest) qn qr qb qc := WL.cons (WS.If (h.go H.br))
theorem IfB.nf {b : Bool} (h : b = false) (H : WL c σ c.env rest qn qr qb qc) : IfB b c σ body [] rest qn qr qb qc := ⟨BR.f h (WL.nil H)⟩
theorem IfB.t0 {b : Bool} (h : b = true) (H : WL c σ c.env body qn qr qb qc) : IfB b c σ body orelse [] qn qr qb qc := ⟨BR.t h (H.mono fun _ k => WL.nil k)⟩
theorem IfB.f0 {b : Bool} (h : b = false) (H : WL c σ c.env orelse qn qr qb qc) : IfB b c σ body orelse [] qn qr qb qc := ⟨BR.f h (H.mono fun _ k => WL.nil k)⟩
theorem IfB.tr {b : Bool} (h : b = true) (H : WL c σ c.env body (fun σ' => WL c σ' c.env rest qn qr qb qc) qr qb qc) : IfB b c σ body orelse rest qn qr qb qc := ⟨BR.t h H⟩
theorem IfB.fa {b : Bool} (h : b = false) (H : WL c σ c.env orelse (fun σ' => WL c σ' c.env rest qn qr qb qc) qr qb qc) : IfB b c σ body orelse rest qn qr qb qc := ⟨BR.f h H⟩
theorem IfB.no {b : Bool} (H : BR b (WL c σ c.env orelse (fun σ' => WL c σ' c.env rest qn qr qb qc) qr qb qc) (WL c σ c.env body (fun σ' => WL c σ' c.env rest qn qr qb qc) qr qb qc)) : IfB (!b) c σ body orelse rest qn qr qb qc := by
  cases b
  · exact ⟨BR.t rfl (H.2 rfl)⟩
  · exact ⟨BR.f rfl (H.1 rfl)⟩
theorem IfB.un0 {b : Bool} (H : BR b (WL c σ c.env body qn qr qb qc) (WL c σ c.env orelse qn qr qb qc)) : IfB b c σ body orelse [] qn qr qb qc := ⟨fun e => (H.1 e).mono fun _ k => WL.nil k, fun e => (H.2 e).mono fun _ k => WL.nil k⟩
theorem IfB.uN {b : Bool} (H : BR b (WL c σ c.env body (fun σ' => WL c σ' c.env rest qn qr qb qc) qr qb qc) (WL c σ c.env rest qn qr qb qc)) : IfB b c σ body [] rest qn qr qb qc := ⟨H.1, fun e => WL.nil (H.2 e)⟩
theorem WL.asV (D : EnvOk c ns gs) (h : EvV c ⟨vs, l⟩ e v) (hs : SlotSet x v ns vs vs') (hc : Is (hNoComp e)) (H : WL c ⟨vs', l⟩ c.env rest qn qr qb qc) : WL c ⟨vs, l⟩ c.env (.Assign [.Name x p1] e pos :: rest) qn qr qb qc := WL.cons (WS.Assign (h.go (WP.st D hs H)) hc.e)
theorem WL.asS {vs' : Tok → List (Option Value)} (D : EnvOk c ns gs) (h : EvS c ⟨vs, l⟩ e s) (hs : ∀ t, SlotSet x (.str (S s) t) ns vs (vs' t)) (hc : Is (hNoComp e)) (H : ∀ t, WL c ⟨vs' t, l⟩ c.env rest qn qr qb qc) : WL c ⟨vs, l⟩ c.env (.Assign [.Name x p1] e pos :: rest) qn qr qb qc := WL.cons (WS.Assign (h.go fun t => WP.st D (hs t) (H t)) hc.e)
theorem WL.asI {vs' : Tok → List (Option Value)} (D : EnvOk c ns gs) (h : EvI c ⟨vs, l⟩ e i) (hs : ∀ t, SlotSet x (.int i t) ns vs (vs' t)) (hc : Is (hNoComp e)) (H : ∀ t, WL c ⟨vs' t, l⟩ c.env rest qn qr qb qc) : WL c ⟨vs, l⟩ c.env (.Assign [.Name x p1] e pos :: rest) qn qr qb qc := WL.cons (WS.Assign (h.go fun t => WP.st D (hs t) (H t)) hc.e)
theorem WL.reV (h : EvV c σ e v) (H : qr v σ) : WL c σ c.env (.Return (some e) pos :: rest) qn qr qb qc := WL.cons (WS.Return (h.go H))
theorem WL.reS (h : EvS c σ e s) (H : ∀ t, qr (.str (S s) t) σ) : WL c σ c.env (.Return (some e) pos :: rest) qn qr qb qc := WL.cons (WS.Return (h.go H))
theorem WL.reI (h : EvI c σ e i) (H : ∀ t, qr (.int i t) σ) : WL c σ c.env (.Return (some e) pos :: rest) qn qr qb qc := WL.cons (WS.Return (h.go H))
theorem WL.brk (H : qb σ) : WL c σ c.env (.Break pos :: rest) qn qr qb qc := WL.cons (WS.Break H)
theorem WL.cnt (H : qc σ) : WL c σ c.env (.Continue pos :: rest) qn qr qb qc := WL.cons (WS.Continue H)
theorem WL.shV (D : EnvOk c ns gs) (h : EvV c ⟨vs, l⟩ e v) (hs : SlotAt n (.ref q) ns vs) (k1 : Kn c ⟨vs, l⟩ q (inst 835 dx)) (u : LedSet dx (dct as) (dct as') l l') (hu : ShU attr v as as') (hc : Is (hNoComp e)) (H : WL c ⟨vs, l'⟩ c.env rest qn qr qb qc) : WL c ⟨vs, l⟩ c.env (.Assign [.Attribute (.Name n np) attr p1] e pos :: rest) qn qr qb qc :=
  WL.cons (WS.AssignAttr (h.go (WP.ld D hs (WP.shSet k1 u hu H))) hc.e)
end
noncomputable def wordC : T := tx "abcdfeghijklmnopqrstuvwxyzABCDEFGHIJKLMNOPQRSTUVWXYZ0123456789_" ++ tx "ßàáâãäåæçèéêëìíîïðñòóôõöøùúûüýþÿÀÁÂÃÄÅÆÇÈÉÊËÌÍÎÏÐÑÒÓÔÕÖØÙÚÛÜÝÞ" ++ tx "~-./*?="
section
variable {x : Str} {v : Value} {ns : List Str} {vs : List (Option Value)} {a b c d e f g h i : Str} {a' b' c' d' e' f' g' h' i' w : Option Value}
theorem SlotAt.s1 : SlotAt x v (a::x::ns) (a'::some v::vs) := .tail (.head)
theorem SlotSet.s1 : SlotSet x v (a::x::ns) (a'::w::vs) (a'::some v::vs) := .tail (.head)
theorem SlotAt.s2 : SlotAt x v (a::b::x::ns) (a'::b'::some v::vs) := .tail (.tail (.head))
theorem SlotSet.s2 : SlotSet x v (a::b::x::ns) (a'::b'::w::vs) (a'::b'::some v::vs) := .tail (.tail (.head))
theorem SlotAt.s3 : SlotAt x v (a::b::c::x::ns) (a'::b'::c'::some v::vs) := .tail (.tail (.tail (.head)))
theorem SlotSet.s3 : SlotSet x v (a::b::c::x::ns) (a'::b'::c'::w::vs) (a'::b'::c'::some v::vs) := .tail (.tail (.tail (.head)))
theorem SlotAt.s4 : SlotAt x v (a::b::c::d::x::ns) (a'::b'::c'::d'::some v::vs) := .tail (.tail (.tail (.tail (.head))))
theorem SlotSet.s4 : SlotSet x v (a::b::c::d::x::ns) (a'::b'::c'::d'::w::vs) (a'::b'::c'::d'::some v::vs) := .tail (.tail (.tail (.tail (.head))))
theorem SlotAt.s5 : SlotAt x v (a::b::c::d::e::x::ns) (a'::b'::c'::d'::e'::some v::vs) := .tail (.tail (.tail (.tail (.tail (.head)))))
theorem SlotSet.s5 : SlotSet x v (a::b::c::d::e::x::ns) (a'::b'::c'::d'::e'::w::vs) (a'::b'::c'::d'::e'::some v::vs) := .tail (.tail (.tail (.tail (.tail (.head)))))
theorem SlotAt.s6 : SlotAt x v (a::b::c::d::e::f::x::ns) (a'::b'::c'::d'::e'::f'::some v::vs) := .tail (.tail (.tail (.tail (.tail (.tail (.head))))))
theorem SlotSet.s6 : SlotSet x v (a::b::c::d::e::f::x::ns) (a'::b'::c'::d'::e'::f'::w::vs) (a'::b'::c'::d'::e'::f'::some v::vs) := .tail (.tail (.tail (.tail (.tail (.tail (.head))))))
theorem SlotAt.s7 : SlotAt x v (a::b::c::d::e::f::g::x::ns) (a'::b'::c'::d'::e'::f'::g'::some v::vs) := .tail (.tail (.tail (.tail (.tail (.tail (.tail (.head)))))))
theorem SlotSet.s7 : SlotSet x v (a::b::c::d::e::f::g::x::ns) (a'::b'::c'::d'::e'::f'::g'::w::vs) (a'::b'::c'::d'::e'::f'::g'::some v::vs) := .tail (.tail (.tail (.tail (.tail (.tail (.tail (.head)))))))
theorem SlotAt.s8 : SlotAt x v (a::b::c::d::e::f::g::h::x::ns) (a'::b'::c'::d'::e'::f'::g'::h'::some v::vs) := .tail (.tail (.tail (.tail (.tail (.tail (.tail (.tail (.head))))))))
theorem SlotSet.s8 : SlotSet x v (a::b::c::d::e::f::g::h::x::ns) (a'::b'::c'::d'::e'::f'::g'::h'::w::vs) (a'::b'::c'::d'::e'::f'::g'::h'::some v::vs) := .tail (.tail (.tail (.tail (.tail (.tail (.tail (.tail (.head))))))))
theorem SlotAt.s9 : SlotAt x v (a::b::c::d::e::f::g::h::i::x::ns) (a'::b'::c'::d'::e'::f'::g'::h'::i'::some v::vs) := .tail (.tail (.tail (.tail (.tail (.tail (.tail (.tail (.tail (.head)))))))))
theorem SlotSet.s9 : SlotSet x v (a::b::c::d::e::f::g::h::i::x::ns) (a'::b'::c'::d'::e'::f'::g'::h'::i'::w::vs) (a'::b'::c'::d'::e'::f'::g'::h'::i'::some v::vs) := .tail (.tail (.tail (.tail (.tail (.tail (.tail (.tail (.tail (.head)))))))))
end
theorem nn_str {x : Str} {t : Tok} : (Value.str x t == Value.none) = false := by rfl
theorem nn_ref {a : Addr} : (Value.ref a == Value.none) = false := by rfl
theorem nn_int {i : Int} {t : Tok} : (Value.int i t == Value.none) = false := by rfl
theorem nn_none : (Value.none == Value.none) = true := by rfl
theorem nt_str {x : Str} {t : Tok} : (!(Value.str x t == Value.none)) = true := by rfl
theorem nt_ref {a : Addr} : (!(Value.ref a == Value.none)) = true := by rfl
theorem nt_int {i : Int} {t : Tok} : (!(Value.int i t == Value.none)) = true := by rfl
theorem nb_str {x : Str} {t : Tok} {b : Bool} : (Value.str x t == Value.bool b) = false := by rfl
theorem nt_none : (!(Value.none == Value.none)) = false := by rfl
theorem ie_cons {v : Value} {r : List Value} : (!(v :: r).isEmpty) = true := by rfl
theorem ie_nil : (!([] : List Value).isEmpty) = false := by rfl
theorem ne_cons {d : Nat} {r : T} : (!decide (d :: r = ([] : T))) = true := by rfl
theorem ne_nil : (!decide (([] : T) = [])) = false := by rfl
theorem not_t {b : Bool} (h : b = false) : (!b) = true := by rw [h]; rfl
theorem not_f {b : Bool} (h : b = true) : (!b) = false := by rw [h]; rfl
theorem wc123 : decide (123 ∈ wordC) = false := by decide
theorem wc44 : decide (44 ∈ wordC) = false := by decide
theorem wc125 : decide (125 ∈ wordC) = false := by decide
theorem wc39 : decide (39 ∈ wordC) = false := by decide
theorem wc34 : decide (34 ∈ wordC) = false := by decide
section
variable {c : Cx} {σ : Sg} {Q : Value → Sg → Prop} {q dx : Addr} {as as' : List (Str × Value)} {name : Str} {w : Value} {x : Str} {t : Tok}
theorem WP.ioGet {e : Bool} (k1 : Kn c σ q (inst 700 dx)) (k2 : Kn c σ dx (dct as)) (hm : Is (decide (name ∈ ioNames))) (ha : AtAt name w as) (hv : Is (handedIn w)) (H : Q w σ) : WP c σ (getAttr (.ref q) name e) Q := .getA (C := 700) (io_get _) k1 k2 (of_decide_eq_true hm.e) ha hv.e H
theorem WP.ioSet {l' : Led} {vs} {news : Led} {Q : Unit → Sg → Prop} (k1 : Kn c ⟨vs, news⟩ q (inst 700 dx)) (u : LedSet dx (dct as) (dct as') news l') (hm : Is (decide (name ∈ ioNames))) (ha : AtSet name w as as') (hz : as'.length ≤ 1000) (H : Q () ⟨vs, l'⟩) : WP c ⟨vs, news⟩ (setAttr (.ref q) name w) Q := .setA (C := 700) (io_set _) k1 u (of_decide_eq_true hm.e) ha hz H
theorem WP.s8Get {e : Bool} (k1 : Kn c σ q (inst 835 dx)) (k2 : Kn c σ dx (dct as)) (hm : Is (decide (name ∈ shNames))) (ha : AtAt name w as) (hv : Is (handedIn w)) (H : Q w σ) : WP c σ (getAttr (.ref q) name e) Q := .getA (C := 835) (sh_get _) k1 k2 (of_decide_eq_true hm.e) ha hv.e H
theorem WP.s8Set {l' : Led} {vs} {news : Led} {Q : Unit → Sg → Prop} (k1 : Kn c ⟨vs, news⟩ q (inst 835 dx)) (u : LedSet dx (dct as) (dct as') news l') (hm : Is (decide (name ∈ shNames))) (ha : AtSet name w as as') (hz : as'.length ≤ 1000) (H : Q () ⟨vs, l'⟩) : WP c ⟨vs, news⟩ (setAttr (.ref q) name w) Q := .setA (C := 835) (sh_set _) k1 u (of_decide_eq_true hm.e) ha hz H
theorem WP.ioMeth {f : Addr} {pl : Sem Bool} {Q : Value × List Value → Sg → Prop} (k1 : Kn c σ q (inst 700 dx)) (k2 : Kn c σ dx (dct as)) (hm : (name, f) ∈ ioMeths) (ha : AtNo name as) (H : Q (.ref f, [.ref q]) σ) : WP c σ (getMethod (.ref q) name pl) Q := .meth (C := 700) (io_meth _) k1 k2 hm ha H
theorem im1 : (("_StringIO__translated" : Str), (477 : Addr)) ∈ ioMeths := .head _
theorem im2 : (("_StringIO__check" : Str), (484 : Addr)) ∈ ioMeths := .tail _ (.head _)
theorem im3 : (("_StringIO__line" : Str), (498 : Addr)) ∈ ioMeths := .tail _ (.tail _ (.head _))
theorem im4 : (("read" : Str), (646 : Addr)) ∈ ioMeths := .tail _ (.tail _ (.tail _ (.head _)))
theorem im5 : (("readline" : Str), (654 : Addr)) ∈ ioMeths := .tail _ (.tail _ (.tail _ (.tail _ (.head _))))
variable {pl : Sem Bool} {P : Value × List Value → Sg → Prop}
theorem gm_split (H : P (.builtin "str.split", [.str x t]) σ) : WP c σ (getMethod (.str x t) "split" pl) P := WP.gmS F.slot_str_split F.type_str_split H
theorem gm_replace (H : P (.builtin "str.replace", [.str x t]) σ) : WP c σ (getMethod (.str x t) "replace" pl) P := WP.gmS F.slot_str_replace F.type_str_replace H
theorem gm_join (H : P (.builtin "str.join", [.str x t]) σ) : WP c σ (getMethod (.str x t) "join" pl) P := WP.gmS F.slot_str_join F.type_str_join H
theorem gm_startswith (H : P (.builtin "str.startswith", [.str x t]) σ) : WP c σ (getMethod (.str x t) "startswith" pl) P := WP.gmS F.slot_str_startswith F.type_str_startswith H
theorem gm_endswith (H : P (.builtin "str.endswith", [.str x t]) σ) : WP c σ (getMethod (.str x t) "endswith" pl) P := WP.gmS F.slot_str_endswith F.type_str_endswith H
theorem gm_rfind (H : P (.builtin "str.rfind", [.str x t]) σ) : WP c σ (getMethod (.str x t) "rfind" pl) P := WP.gmS F.slot_str_rfind F.type_str_rfind H
theorem gm_find (H : P (.builtin "str.find", [.str x t]) σ) : WP c σ (getMethod (.str x t) "find" pl) P := WP.gmS F.slot_str_find F.type_str_find H
theorem gm_rstrip (H : P (.builtin "str.rstrip", [.str x t]) σ) : WP c σ (getMethod (.str x t) "rstrip" pl) P := WP.gmS F.slot_str_rstrip F.type_str_rstrip H
theorem gm_append {d : Addr} {vs : List Value} (k : Kn c σ d (lst vs)) (H : P (.builtin "list.append", [.ref d]) σ) : WP c σ (getMethod (.ref d) "append" pl) P := WP.gmL k F.slot_list_append F.type_list_append H
theorem gm_extend {d : Addr} {vs : List Value} (k : Kn c σ d (lst vs)) (H : P (.builtin "list.extend", [.ref d]) σ) : WP c σ (getMethod (.ref d) "extend" pl) P := WP.gmL k F.slot_list_extend F.type_list_extend H
theorem gm_dpop {xs : List Value} (k : Kn c σ q (dq xs)) (H : P (.builtin "collections.deque.pop", [.ref q]) σ) : WP c σ (getMethod (.ref q) "pop" pl) P := WP.gmD k slot_dq_pop type_dq_pop H
theorem gm_dappend {xs : List Value} (k : Kn c σ q (dq xs)) (H : P (.builtin "collections.deque.append", [.ref q]) σ) : WP c σ (getMethod (.ref q) "append" pl) P := WP.gmD k slot_dq_append type_dq_append H
end
end Mine
end
section
set_option genInjectivity false
set_option genSizeOf false
set_option genCtorIdx false
set_option bootstrap.genMatcherCode false
open PySem PySem.W PyProof.Rows PySem.Calls PySem.Spec
set_option maxRecDepth 100000
set_option maxHeartbeats 4000000
set_option tactic.hygienic false
namespace Mine
noncomputable def cel (v : Option Value) (o : Obj) : Prop := o.data = .cell v
structure CellAt (env : Env) (x : Str) (a : Addr) : Prop where
  kind : env.scope.kind = .function
  k : env.kindOf x = some .cell
  l : env.cells.lookup x = some a
  nd : (x == ("__debug__" : Str)) = false
section
variable {c : Cx} {σ : Sg} {pos : Pos} {x : Str} {a : Addr} {v : Value}
theorem WP.ldCell {Q : Value → Sg → Prop} (D : CellAt c.env x a) (k : Kn c σ a (cel (some v))) (H : Q v σ) : WP c σ (eval (.Name x pos) c.env) Q := .of0 fun _ _ _ _ Z _ =>
  wpAny_Name (wpAny_loadName_cell D.kind D.k D.l (Z.kn k) ⟨_, _, _, rfl, Z, H⟩) D.nd
theorem WP.stCell {Q : Unit → Sg → Prop} {v0 : Option Value} {vs} {l l' : Led} (D : CellAt c.env x a) (u : LedSet a (cel v0) (cel (some v)) l l') (H : Q () ⟨vs, l'⟩) : WP c ⟨vs, l⟩ (storeName c.env x v) Q := .of0 fun _ _ _ _ Z _ =>
  wpAny_storeName_cell D.kind D.k D.l (Z.get (σ := ⟨vs, l⟩) u.at) fun h' hc hs => ⟨h', _, _, rfl, St.upd (σ := ⟨vs, l⟩) Z u hs hc, H⟩
end
noncomputable def Cx.comp (c : Cx) (scope : Scope) (cl : List (Str × Addr)) (x : Str) (C : Addr) : Cx :=
  { w := c.w, h₀ := c.h₀, base := c.base, env := compEnvC scope cl C c.env, L := C, ns := [x], dp := c.dp, un := c.un, g := c.g, d := c.d, os := c.os }
structure ScopeOk (scope : Scope) (x : Str) : Prop where
  cell : ∀ y ∈ scope.names, y.2 ≠ .cell
  kind : scope.kind = .function
  names : ∀ y ∈ scope.names, y.2 = .local → scope.names.lookup y.1 = some .local
  lk : scope.names.lookup x = some .local
  nd : (x == ("__debug__" : Str)) = false
theorem EnvOk.comp {c : Cx} {ns gs} {scope : Scope} {cl : List (Str × Addr)} {x : Str} {C : Addr} (D : EnvOk c ns gs) (S : ScopeOk scope x) : EnvOk (c.comp scope cl x C) [x] [] where
  nsE := rfl
  nd := by simp
  kind := S.kind
  LE := rfl
  loc := fun y hy => by
    rw [List.mem_singleton.mp hy]
    exact ⟨lookup_relabel_local S.lk, S.nd⟩
  glo := fun _ hp => nomatch hp
  eg := D.eg
  eb := D.eb
section
variable {c : Cx} {σ : Sg} {Q : Value → Sg → Prop}
theorem St.outer {scope : Scope} {cl : List (Str × Addr)} {x : Str} {C : Addr} {h h1 : Heap} {xs vs} {l : Led} {oL : Obj} (Z0 : St c ⟨vs, []⟩ h1) (hL : h1.get? c.L = some oL) (Z : St (c.comp scope cl x C) ⟨xs, (c.L, (· = oL)) :: l⟩ h) :
    ∃ oC, St c ⟨vs, (C, (· = oC)) :: l⟩ h := by
  obtain ⟨oC, esC, epC, hC, rC⟩ := Z.fr.ns
  refine ⟨oC, ⟨?_, Z.fr.keep, Z0.fr.above⟩, ?_, ?_⟩
  · obtain ⟨o, es, ep, ho, r⟩ := Z0.fr.ns
    obtain ⟨⟨o', h1', h2'⟩, _, _⟩ := Z.nw _ (.head _)
    rw [hL] at ho; cases ho
    subst h2'
    exact ⟨_, es, ep, h1', r⟩
  · intro p hp
    have nd := List.nodup_cons.mp Z.nd
    rcases List.mem_cons.mp hp with rfl | hp
    · refine ⟨⟨oC, hC, rfl⟩, ?_, ?_⟩
      · intro e
        exact (Z.nw _ (.head _)).2.1 e.symm
      · cases q : c.h₀.get? C with
        | none => rfl
        | some o => exact absurd (Heap.lt_size q) (Nat.not_lt.mpr Z.fr.above)
    · have y := Z.nw p (.tail _ hp)
      exact ⟨y.1, fun e => nd.1 (List.mem_map.mpr ⟨p, hp, e⟩), y.2.2⟩
  · have nd := List.nodup_cons.mp Z.nd
    refine List.nodup_cons.mpr ⟨fun hm => ?_, nd.2⟩
    obtain ⟨p, hp, e⟩ := List.mem_map.mp hm
    exact (Z.nw p (.tail _ hp)).2.1 e
theorem St.letGo {C : Addr} {oC : Obj} {h h' : Heap} {vs} {l : Led} (Z : St c ⟨vs, (C, (· = oC)) :: l⟩ h) (hs : Heap.SameBut C h h') : St c ⟨vs, l⟩ h' := Z.drop hs.extBut
inductive EndC (I : Addr) (p : Ob) (D : Addr) (acc : List Value) (cL : Addr) (oL : Ob) (K : Led → Prop) (σ : Sg) : Prop
  | mk (l : Led) (h : List.Sublist ((I, p) :: (D, lst acc) :: (cL, oL) :: l) σ.news) (w : Value) (e : σ.vs = [some w]) (k : K l)
noncomputable def Tests (c : Cx) (σ : Sg) (ifs : List PySem.Expr) (qt qf : Sg → Prop) : Prop := match ifs with
  | [] => qt σ
  | [e] => WB c σ c.env e qt qf
  | _ => False
structure CompTurn (c2 : Cx) (cL : Addr) (ifs : List PySem.Expr) (elt : PySem.Expr) (it : Nat → Ob) (n : Nat) (val : Nat → Value → Prop) (side : Sg → Prop) (Inv : Nat → List Value → Led → Prop) : Prop where
  ok : ItOk c2 it n val side
  side : ∀ i acc l xs D oL, Inv i acc l → side ⟨xs, (D, lst acc) :: (cL, oL) :: l⟩
  turn : ∀ i v I D acc l oL, i < n → val i v → Inv i acc l →
    Tests c2 ⟨[some v], (I, it (i + 1)) :: (D, lst acc) :: (cL, oL) :: l⟩ ifs
      (fun σ3 => WP c2 σ3 (eval elt c2.env) (fun y σ4 => EndC I (it (i + 1)) D acc cL oL (Inv (i + 1) (acc ++ [y])) σ4))
      (fun σ3 => EndC I (it (i + 1)) D acc cL oL (Inv (i + 1) acc) σ3)
theorem wp_tests {A : Around} {ifs : List PySem.Expr} {qt qf : Sg → Prop} {h : Heap} {tk : Nat} (R : Room A c.dp c.un) (Z : St c σ h) (p : 0 < tk) (T : Tests c σ ifs qt qf) :
    wpAny (model PR c.w) A (forIn ifs true fun e r => if r = true then do let ok ← isTrue e c.env (eval e c.env); pure (ForInStep.yield ok) else pure (ForInStep.yield r)) (Post c (fun b σ' => if b = true then qt σ' else qf σ')) NoE ⟨h, c.g, c.d, tk, c.os⟩ := by
  match ifs, T with
  | [], T => exact wpAny_tests_nil ⟨_, _, _, rfl, Z, p, by dsimp only; rw [if_pos rfl]; exact T⟩
  | [e], T =>
    exact wpAny_tests_one (wpAny_mono ((T.run _ rfl).run A h tk R Z p) (fun b s' q => q.mono fun b σ' hb => hb.ite) fun _ _ x => x)
inductive CompK (c : Cx) (c2 : Cx) (I D : Addr) (oL : Obj) (it : Nat → Ob) (n : Nat) (Inv : Nat → List Value → Led → Prop) : Nat → Shared → Prop
  | mk (h : Heap) (tk : Nat) (w : Option Value) (acc : List Value) (l : Led) (i : Nat) (p0 : 0 < tk) (hi : i ≤ n) (hacc : acc.length ≤ i) (Z : St c2 ⟨[w], (I, it i) :: (D, lst acc) :: (c.L, (· = oL)) :: l⟩ h) (hI : Inv i acc l) : CompK c c2 I D oL it n Inv (n - i) ⟨h, c.g, c.d, tk, c.os⟩
theorem comp_loop {A : Around} {elt iter : PySem.Expr} {x : Str} {px pos : Pos} {ifs : List PySem.Expr} {scope : Scope} {cl : List (Str × Addr)} {C I D : Addr} {oL : Obj} {it : Nat → Ob} {n : Nat} {val : Nat → Value → Prop} {side : Sg → Prop} {Inv : Nat → List Value → Led → Prop} {R : Result → Shared → Prop} {h : Heap} {tk : Nat} {l : Led} {w0 : Option Value} {ns gs}
    (Dk : EnvOk c ns gs) (S : ScopeOk scope x) (T : CompTurn (c.comp scope cl x C) c.L ifs elt it n val side Inv) (hn : n ≤ 4000000) (hI0 : Inv 0 [] l) (Rm : Room A c.dp c.un) (p0 : 0 < tk)
    (Z : St (c.comp scope cl x C) ⟨[w0], (I, it 0) :: (D, lst []) :: (c.L, (· = oL)) :: l⟩ h)
    (hR : ∀ h tk w acc l, 0 < tk → St (c.comp scope cl x C) ⟨[w], (D, lst acc) :: (c.L, (· = oL)) :: l⟩ h → Inv n acc l → R (.ok .next) ⟨h, c.g, c.d, tk, c.os⟩) :
    codeAny (model PR c.w) A (.compLoop (.ListComp elt [⟨.Name x px, iter, ifs, 0⟩] scope pos) 0 (.ref I) (.ref D) (compEnvC scope cl C c.env)) R ⟨h, c.g, c.d, tk, c.os⟩ := by
  refine codeAny_compLoop_tests (CompK c (c.comp scope cl x C) I D oL it n Inv) ?_ n (.mk h tk w0 [] l 0 p0 (Nat.zero_le _) (Nat.le_refl _) Z hI0)
  intro k s K
  induction K with | mk h tk w acc l i p0 hi hacc Z hI => ?_
  have hs := T.side i acc l [w] D (· = oL) hI
  by_cases hlt : i < n
  · refine T.ok.go (σ := ⟨[w], (D, lst acc) :: (c.L, (· = oL)) :: l⟩) Rm Z p0 hs hlt fun v h1 tk1 p1 hv Z1 => ?_
    have Dc := Dk.comp (cl := cl) (C := C) S
    have W1 : WP (c.comp scope cl x C) ⟨[w], (I, it (i + 1)) :: (D, lst acc) :: (c.L, (· = oL)) :: l⟩ (assign (.Name x px) (compEnvC scope cl C c.env) v) (fun _ σ' => σ' = ⟨[some v], (I, it (i + 1)) :: (D, lst acc) :: (c.L, (· = oL)) :: l⟩) :=
      .asg (e := .Name x px) (.st Dc .head rfl)
    refine W1.runEq Rm Z1 p1 fun _ h2 tk2 Z2 p2 => ?_
    refine wpAny_mono (wp_tests (c := c.comp scope cl x C) Rm Z2 p2 (T.turn i v I D acc l (· = oL) hlt hv hI)) ?_ (fun _ _ e => e.elim)
    refine Post.thru ?_
    rintro ok h3 tk3 σ3 Z3 p3 H3
    cases ok with
    | false =>
      obtain ⟨l', hsub, w', hw', hI'⟩ := H3
      refine ⟨n - (i + 1), Nat.sub_lt_sub_left hlt (Nat.lt_succ_self i), .mk h3 tk3 (some w') acc l' (i + 1) p3 hlt (by lia) ?_ hI'⟩
      have := Z3.sub hsub
      rw [hw'] at this
      exact this
    | true =>
      refine wpAny_mono (WP.run H3 A h3 tk3 Rm Z3 p3) ?_ (fun _ _ e => e.elim)
      refine Post.thru ?_
      rintro y h4 tk4 σ4 Z4 p4 ⟨l', hsub, w', hw', hI'⟩
      have Z5 := Z4.sub hsub
      rw [hw'] at Z5
      have W2 : WP (c.comp scope cl x C) ⟨[some w'], (I, it (i + 1)) :: (D, lst acc) :: (c.L, (· = oL)) :: l'⟩ (PySem.call (.builtin "list.append") [.ref D, y]) (fun _ σ' => σ' = ⟨[some w'], (I, it (i + 1)) :: (D, lst (acc ++ [y])) :: (c.L, (· = oL)) :: l'⟩) :=
        .append (σ := ⟨[some w'], (I, it (i + 1)) :: (D, lst acc) :: (c.L, (· = oL)) :: l'⟩) (by lia) (.tail .head) rfl
      refine W2.runEq Rm Z5 p4 fun _ h6 tk6 Z6 p6 => ?_
      exact ⟨n - (i + 1), Nat.sub_lt_sub_left hlt (Nat.lt_succ_self i), .mk h6 tk6 (some w') (acc ++ [y]) l' (i + 1) p6 hlt (by rw [List.length_append]; simp; lia) Z6 hI'⟩
  · have hin : i = n := Nat.le_antisymm hi (Nat.not_lt.mp hlt)
    subst hin
    exact T.ok.fin (σ := ⟨[w], (D, lst acc) :: (c.L, (· = oL)) :: l⟩) Rm Z p0 hs fun h1 tk1 p1 Z1 => hR _ _ _ _ _ p1 Z1 hI

noncomputable def SelfIt (it0 : Ob) : Prop := ∀ (w : World) (A : Around) (E : Value → Shared → Prop) (s : Shared) (I : Addr) (Q : Value → Shared → Prop), (∃ o, s.heap.get? I = some o ∧ it0 o) → Q (.ref I) s → wpAny (model PR w) A (pyIter (.ref I)) Q E s
theorem comp_block {A : Around} {elt iter : PySem.Expr} {x : Str} {px pos : Pos} {ifs : List PySem.Expr} {scope : Scope} {cl : List (Str × Addr)} {I : Addr} {it : Nat → Ob} {n : Nat} {val : Nat → Value → Prop} {side : Addr → Sg → Prop} {Inv : Nat → List Value → Led → Prop} {RR : Value → Addr → Result → Shared → Prop} {h : Heap} {tk : Nat} {vs} {l : Led} {ns gs}
    (Dk : EnvOk c ns gs) (S : ScopeOk scope x) (T : ∀ C, CompTurn (c.comp scope cl x C) c.L ifs elt it n val (side C) Inv) (hn : n ≤ 4000000) (hI0 : Inv 0 [] l) (Rm : Room A c.dp c.un) (p0 : 0 < tk)
    (Z : St c ⟨vs, (I, it 0) :: l⟩ h)
    (hself : SelfIt (it 0))
    (hR : ∀ D C h tk oC acc l, 0 < tk → St c ⟨vs, (C, (· = oC)) :: (D, lst acc) :: l⟩ h → (∃ m, h.Ns C m) → Inv n acc l → RR (.ref D) C (.ok .next) ⟨h, c.g, c.d, tk, c.os⟩) :
    wpAny (model PR c.w) A (newList []) (fun acc s₃ => wpAny (model PR c.w) A (newFunctionEnv scope c.env.globals cl [] c.env.qual none .none (some c.env)) (fun cenv s₄ =>
      codeAny (model PR c.w) A (.compStart (.ListComp elt [⟨.Name x px, iter, ifs, 0⟩] scope pos) 0 (.ref I) acc { cenv with scope := relabel scope c.env }) (RR acc cenv.locals) s₄) NoE s₃) NoE ⟨h, c.g, c.d, tk, c.os⟩ := by
  refine wpAny_newObj_type (wpAny_newFunctionEnv S.cell (by intro y hy; simp at hy) (fun h₁ hns₁ hsb₁ => ?_) S.kind)
  have Z1 := Z.push { cls := .type "list", dict := none, data := .seq ([] : List Value).toArray } (lst []) ⟨0, rfl⟩ rfl
  dsimp only at hns₁ hsb₁ Z1 ⊢
  generalize hH2 : h.push { cls := .type "list", dict := none, data := .seq ([] : List Value).toArray } = H2 at hns₁ hsb₁ Z1 ⊢
  obtain ⟨oL, esL, epL, hL, rL⟩ := Z1.fr.ns
  have old : ∀ b o, H2.get? b = some o → h₁.get? b = some o := fun b o e => hsb₁.extBut b o (Nat.ne_of_lt (Heap.lt_size e)) (Heap.get?_push_of_some _ e)
  have hL0 : c.h₀.get? c.L = none := by
    cases q : c.h₀.get? c.L with
    | none => rfl
    | some o => exact absurd (Heap.lt_size q) (Nat.not_lt.mpr Z1.fr.above)
  have Z2 : St (c.comp scope cl x H2.objs.size) ⟨[none], (I, it 0) :: (h.objs.size, lst []) :: (c.L, (· = oL)) :: l⟩ h₁ := by
    have Zp : St c ⟨vs, (I, it 0) :: (h.objs.size, lst []) :: l⟩ H2 := Z1.perm (List.Perm.swap _ _ _)
    refine ⟨⟨?_, fun b o e => old b o (Zp.keep b o e), ?_⟩, ?_, ?_⟩
    · have e : (fun x => List.lookup x ([] : List (Str × Value)).reverse) = slotGet [x] [none] := by
        funext y; simp [slotGet]
      rw [e] at hns₁
      exact hns₁
    · exact Nat.le_of_lt (Nat.lt_of_le_of_lt Zp.fr.above (Heap.lt_size hL))
    · intro p hp
      have hne : ∀ {a o}, H2.get? a = some o → a ≠ H2.objs.size := fun e => Nat.ne_of_lt (Heap.lt_size e)
      have hm : p = (c.L, (· = oL)) ∨ p ∈ (I, it 0) :: (h.objs.size, lst []) :: l := by
        rcases List.mem_cons.mp hp with e | hp
        · exact .inr (by rw [e]; exact .head _)
        · rcases List.mem_cons.mp hp with e | hp
          · exact .inr (by rw [e]; exact .tail _ (.head _))
          · rcases List.mem_cons.mp hp with e | hp
            · exact .inl e
            · exact .inr (.tail _ (.tail _ hp))
      rcases hm with rfl | hm
      · exact ⟨⟨oL, old _ _ hL, rfl⟩, hne hL, hL0⟩
      · obtain ⟨⟨o, y1, y2⟩, y3, y4⟩ := Zp.nw p hm
        exact ⟨⟨o, old _ _ y1, y2⟩, hne y1, y4⟩
    · have nd := Zp.nd
      have hLn : ∀ p ∈ (I, it 0) :: (h.objs.size, lst []) :: l, p.1 ≠ c.L := fun p hp => (Zp.nw p hp).2.1
      simp only [List.map_cons, List.nodup_cons, List.mem_cons, not_or] at nd ⊢
      refine ⟨⟨nd.1.1, ?_, nd.1.2⟩, ⟨?_, nd.2.1⟩, ?_, nd.2.2⟩
      · exact hLn _ (.head _)
      · exact hLn _ (.tail _ (.head _))
      · intro hm
        obtain ⟨p, hp, e⟩ := List.mem_map.mp hm
        exact hLn p (.tail _ (.tail _ hp)) e
  have hL1 : h₁.get? c.L = some oL := old _ _ hL
  have Z0 : St c ⟨vs, []⟩ h₁ := (Z1.ext old).sub (List.nil_sublist _)
  have loop : ∀ tk', 0 < tk' → codeAny (model PR c.w) A (.compLoop (.ListComp elt [⟨.Name x px, iter, ifs, 0⟩] scope pos) 0 (.ref I) (.ref h.objs.size) (compEnvC scope cl H2.objs.size c.env)) (RR (.ref h.objs.size) H2.objs.size) ⟨h₁, c.g, c.d, tk', c.os⟩ := by
    intro tk' p'
    refine comp_loop Dk S (T H2.objs.size) hn hI0 Rm p' Z2 ?_
    intro h3 tk3 w acc l3 p3 Z3 hI
    have Z4 := Z3.perm (List.Perm.swap _ _ _)
    have hLL : h₁.get? c.L = some oL := hL1
    obtain ⟨oC, Z5⟩ := St.outer Z0 hLL Z4
    exact hR _ _ _ _ oC acc l3 p3 Z5 ⟨_, Z3.fr.ns⟩ hI
  refine codeAny_compStart_list (loop _ p0) ?_
  exact hself _ _ _ _ I _ (Z2.get (a := I) (p := it 0) .head) (loop _ p0)
end
end Mine
end
section
set_option genInjectivity false
set_option genSizeOf false
set_option genCtorIdx false
set_option bootstrap.genMatcherCode false
open PySem PySem.W PyProof.Rows PySem.Calls PySem.Spec
set_option maxRecDepth 100000
set_option maxHeartbeats 4000000
set_option tactic.hygienic false
namespace Mine
section
variable {c : Cx} {σ : Sg} {Q : Value → Sg → Prop} {ns : List Str} {gs : List (Str × Value)} {elt iter : PySem.Expr} {x y : Str} {px py pos spos : Pos} {ifs : List PySem.Expr} {scope : Scope} {cl : List (Str × Addr)} {qn qb qc : Sg → Prop} {qr : Value → Sg → Prop}
theorem SelfIt.list {l : Addr} : SelfIt (lstIt l 0) := fun w A E s I Q h q => wpAny_pyIter_listiter (l := l) (i := 0) h q
theorem SelfIt.tuple {l : Addr} : SelfIt (tupIt l 0) := fun w A E s I Q h q => wpAny_pyIter_tupleiter (t := l) (i := 0) h q
theorem WP.compE (Dk : EnvOk c ns gs) (S : ScopeOk scope x) (hcl : closureFor scope c.env = Pure.pure cl)
    (H : WP c σ (eval iter c.env) (fun v σ₁ => Ex5 fun (it : Nat → Ob) (n : Nat) (val : Nat → Value → Prop) (side : Addr → Sg → Prop) (Inv : Nat → List Value → Led → Prop) => A6 (IterOf c σ₁ v it) (SelfIt (it 0)) ((∀ C, CompTurn (c.comp scope cl x C) c.L ifs elt it n val (side C) Inv)) (n ≤ 4000000) (Inv 0 [] σ₁.news) (∀ D acc l, Inv n acc l → Q (.ref D) ⟨σ₁.vs, (D, lst acc) :: l⟩)))
    (hs : ∀ v, foldedSetIterable iter c.env v = Pure.pure v := by intro _; rfl) : WP c σ (eval (.ListComp elt [⟨.Name x px, iter, ifs, 0⟩] scope pos) c.env) Q := by
  refine ⟨fun A h tk R Z p₀ => ?_⟩
  rw [eval_ListComp]
  refine wpAny_comprehension_free (use := none) rfl hs hcl S.kind S.names (H.runK R Z p₀ ?_)
  rintro v h1 tk1 σ1 Z1 p1 ⟨it, n, val, side, Inv, HI, hself, HT, hn, hI0, HQ⟩
  refine wpAny_mono (wpAny_toks_of (n := 1) p1 (HI.run A h1 tk1 R Z1 p1)) ?_ fun _ _ e => e.2
  rintro r _ ⟨p2, I, rfl, h2, tk2, σ2, rfl, Z2, rfl⟩
  refine comp_block (RR := fun acc C => compPost (model PR c.w) A NoE none (Post c Q) acc C) Dk S HT hn hI0 R p2 Z2 hself ?_
  intro D C h3 tk3 oC acc l p3 Z3 ⟨m, hm⟩ hI
  exact ⟨m, hm, fun h' hs' => ⟨h', tk3, ⟨σ1.vs, (D, lst acc) :: l⟩, rfl, Z3.letGo hs', p3, HQ D acc l hI⟩⟩
theorem WS.compA (Dk : EnvOk c ns gs) (S : ScopeOk scope x) (hcl : closureFor scope c.env = Pure.pure cl)
    (hsw : swapsWith (.ListComp elt [⟨.Name x px, iter, ifs, 0⟩] scope pos) (some (.Name y py)) spos.line c.env = Pure.pure true)
    (H : WP c σ (eval iter c.env) (fun v σ₁ => Ex5 fun (it : Nat → Ob) (n : Nat) (val : Nat → Value → Prop) (side : Addr → Sg → Prop) (Inv : Nat → List Value → Led → Prop) => A6 (IterOf c σ₁ v it) (SelfIt (it 0)) ((∀ C, CompTurn (c.comp scope cl x C) c.L ifs elt it n val (side C) Inv)) (n ≤ 4000000) (Inv 0 [] σ₁.news) (∀ D, ∃ vs', SlotSet y (.ref D) ns σ₁.vs vs' ∧ ∀ acc l, Inv n acc l → qn ⟨vs', (D, lst acc) :: l⟩)))
    (hs : ∀ v, foldedSetIterable iter c.env v = Pure.pure v := by intro _; rfl) : WS c σ c.env (.Assign [.Name y py] (.ListComp elt [⟨.Name x px, iter, ifs, 0⟩] scope pos) spos) qn qr qb qc := by
  refine ⟨fun A h tk R Z p₀ => ?_⟩
  rw [exec_Assign_Name_used _ _ _ _ hsw]
  refine wpAny_bind (wpAny_standAt (wpAny_bind ?_))
  refine (?_ : wpAny _ A (do let _ ← comprehension (.ListComp elt [⟨.Name x px, iter, ifs, 0⟩] scope pos) scope c.env _ (newList []) false (eval iter c.env) (some (assign (.Name y py) c.env))) _ _ _)
  refine wpAny_bind (wpAny_mono (wpAny_comprehension_free (use := some (assign (.Name y py) c.env)) (Q := fun _ s' => Post c (FQ qn qr qb qc) .next s') rfl hs hcl S.kind S.names (wpAny_mono (H.run A h tk R Z p₀) ?_ fun _ _ e => e)) (fun _ s' hq => wpAny_pure (wpAny_pure hq)) fun _ _ e => e)
  refine Post.thru ?_
  rintro v h1 tk1 σ1 Z1 p1 ⟨it, n, val, side, Inv, HI, hself, HT, hn, hI0, HQ⟩
  refine wpAny_mono (wpAny_toks_of (n := 1) p1 (HI.run A h1 tk1 R Z1 p1)) ?_ fun _ _ e => e.2
  rintro r _ ⟨p2, I, rfl, h2, tk2, σ2, rfl, Z2, rfl⟩
  refine comp_block (RR := fun acc C => compPost (model PR c.w) A NoE (some (assign (.Name y py) c.env)) (fun _ s' => Post c (FQ qn qr qb qc) .next s') acc C) Dk S HT hn hI0 R p2 Z2 hself ?_
  intro D C h3 tk3 oC acc l p3 Z3 ⟨m, hm⟩ hI
  obtain ⟨vs', hset, hq⟩ := HQ D
  have W1 : WP c ⟨σ1.vs, (C, (· = oC)) :: (D, lst acc) :: l⟩ (assign (.Name y py) c.env (.ref D)) (fun _ σ' => σ' = ⟨vs', (C, (· = oC)) :: (D, lst acc) :: l⟩) := .asg (e := .Name y py) (.st Dk hset rfl)
  refine (?_ : wpAny _ A (assign (.Name y py) c.env (.ref D)) _ _ _)
  refine W1.runK R Z3 p3 ?_
  rintro _ h4 tk4 σ4 Z4 p4 rfl
  obtain ⟨o3, es, ep, ho3, r3⟩ := hm
  obtain ⟨⟨o4, ho4, e4⟩, _⟩ := Z4.nw _ (.head _)
  obtain ⟨⟨o5, ho5, e5⟩, _⟩ := Z3.nw _ (.head _)
  dsimp only at e4 e5 ho4 ho5
  rw [ho3] at ho5; cases ho5
  subst e5; subst e4
  exact ⟨m, ⟨_, es, ep, ho4, r3⟩, fun h' hs' => ⟨h', tk4, ⟨vs', (D, lst acc) :: l⟩, rfl, Z4.letGo hs', p4, hq acc l hI⟩⟩
theorem Kn.comp {a p} {C : Addr} {l l' : Led} {xs ys} (k : Kn c ⟨xs, l⟩ a p) (h : ∀ q ∈ l, q ∈ l') : Kn (c.comp scope cl x C) ⟨ys, l'⟩ a p := by
  cases k with
  | old o e hp => exact .old o e hp
  | led m => exact .led (.of_mem (h _ m.mem))
inductive Src (c : Cx) (l : Led) : Bool → Addr → List Value → Prop
  | list {d vs} : Kn c ⟨[], l⟩ d (lst vs) → Src c l false d vs
  | tuple {d vs} : Kn c ⟨[], l⟩ d (tup vs) → Src c l true d vs
noncomputable def CompStep (c : Cx) (scope : Scope) (cl : List (Str × Addr)) (x : Str) (ifs : List PySem.Expr) (elt : PySem.Expr) (Inv : List Value → List Value → Led → Prop) : Prop :=
  ∀ C I p D v rest acc l oL, Inv (v :: rest) acc l → Tests (c.comp scope cl x C) ⟨[some v], (I, p) :: (D, lst acc) :: (c.L, oL) :: l⟩ ifs
      (fun σ3 => WP (c.comp scope cl x C) σ3 (eval elt (c.comp scope cl x C).env) (fun y σ4 => EndC I p D acc c.L oL (Inv rest (acc ++ [y])) σ4))
      (fun σ3 => EndC I p D acc c.L oL (Inv rest acc) σ3)
theorem compTurn_of {b : Bool} {d : Addr} {vs : List Value} {Inv : List Value → List Value → Led → Prop} (hsrc : ∀ rest acc l, Inv rest acc l → Src c l b d vs) (hst : CompStep c scope cl x ifs elt Inv) (C : Addr) :
    CompTurn (c.comp scope cl x C) c.L ifs elt (if b then tupIt d else lstIt d) vs.length (fun i v => vs[i]? = some v) (fun σ => if b then Kn (c.comp scope cl x C) σ d (tup vs) else Kn (c.comp scope cl x C) σ d (lst vs)) (fun i acc l => Inv (vs.drop i) acc l) where
  ok := by
    cases b
    · exact ItOk.list
    · exact ItOk.tuple
  side := fun i acc l xs D oL hI => by
    cases hsrc _ _ _ hI with
    | list k => exact k.comp fun q hq => .tail _ (.tail _ hq)
    | tuple k => exact k.comp fun q hq => .tail _ (.tail _ hq)
  turn := fun i v I D acc l oL hi hv hI => by
    have e : vs.drop i = v :: vs.drop (i + 1) := by
      obtain ⟨h1, h2⟩ := List.getElem?_eq_some_iff.mp hv
      rw [List.drop_eq_getElem_cons h1, h2]
    rw [e] at hI
    exact hst C I _ D v (vs.drop (i + 1)) acc l oL hI
theorem Src.itOf {b : Bool} {d : Addr} {vs : List Value} {xs} {l : Led} (h : Src c l b d vs) : IterOf c ⟨xs, l⟩ (.ref d) (if b then tupIt d else lstIt d) := by
  cases h with
  | list k => exact IterOf.list (k.mono fun _ h => h)
  | tuple k => exact IterOf.tuple (k.mono fun _ h => h)
theorem Src.self {b : Bool} {d : Addr} : SelfIt ((if b then tupIt d else lstIt d) 0) := by
  cases b
  · exact SelfIt.list
  · exact SelfIt.tuple
theorem WP.compX (Dk : EnvOk c ns gs) (S : ScopeOk scope x) (hcl : closureFor scope c.env = Pure.pure cl)
    (H : WP c σ (eval iter c.env) (fun v σ₁ => Ex4 fun b d vs Inv => A6 (v = .ref d) ((∀ rest acc l, Inv rest acc l → Src c l b d vs)) (CompStep c scope cl x ifs elt Inv) (vs.length ≤ 4000000) (Inv vs [] σ₁.news) (∀ D acc l, Inv [] acc l → Q (.ref D) ⟨σ₁.vs, (D, lst acc) :: l⟩)))
    (hs : ∀ v, foldedSetIterable iter c.env v = Pure.pure v := by intro _; rfl) : WP c σ (eval (.ListComp elt [⟨.Name x px, iter, ifs, 0⟩] scope pos) c.env) Q := by
  refine .compE Dk S hcl (H.mono ?_) hs
  rintro v σ₁ ⟨b, d, vs, Inv, rfl, hsrc, hst, hn, h0, hq⟩
  exact ⟨_, _, _, fun C σ => if b then Kn (c.comp scope cl x C) σ d (tup vs) else Kn (c.comp scope cl x C) σ d (lst vs), fun i acc l => Inv (vs.drop i) acc l, (hsrc _ _ _ h0).itOf, Src.self, compTurn_of hsrc hst, hn, h0, fun D acc l hI => hq D acc l (by dsimp only at hI; rw [List.drop_length] at hI; exact hI)⟩
theorem WS.compX (Dk : EnvOk c ns gs) (S : ScopeOk scope x) (hcl : closureFor scope c.env = Pure.pure cl)
    (hsw : swapsWith (.ListComp elt [⟨.Name x px, iter, ifs, 0⟩] scope pos) (some (.Name y py)) spos.line c.env = Pure.pure true)
    (H : WP c σ (eval iter c.env) (fun v σ₁ => Ex4 fun b d vs Inv => A6 (v = .ref d) ((∀ rest acc l, Inv rest acc l → Src c l b d vs)) (CompStep c scope cl x ifs elt Inv) (vs.length ≤ 4000000) (Inv vs [] σ₁.news) (∀ D, ∃ vs', SlotSet y (.ref D) ns σ₁.vs vs' ∧ ∀ acc l, Inv [] acc l → qn ⟨vs', (D, lst acc) :: l⟩)))
    (hs : ∀ v, foldedSetIterable iter c.env v = Pure.pure v := by intro _; rfl) : WS c σ c.env (.Assign [.Name y py] (.ListComp elt [⟨.Name x px, iter, ifs, 0⟩] scope pos) spos) qn qr qb qc := by
  refine .compA Dk S hcl hsw (H.mono ?_) hs
  rintro v σ₁ ⟨b, d, vs, Inv, rfl, hsrc, hst, hn, h0, hq⟩
  refine ⟨_, _, _, fun C σ => if b then Kn (c.comp scope cl x C) σ d (tup vs) else Kn (c.comp scope cl x C) σ d (lst vs), fun i acc l => Inv (vs.drop i) acc l, (hsrc _ _ _ h0).itOf, Src.self, compTurn_of hsrc hst, hn, h0, fun D => ?_⟩
  obtain ⟨vs', h1, h2⟩ := hq D
  exact ⟨vs', h1, fun acc l hI => h2 acc l (by dsimp only at hI; rw [List.drop_length] at hI; exact hI)⟩
end
end Mine
end
section
set_option genInjectivity false
set_option genSizeOf false
set_option genCtorIdx false
set_option bootstrap.genMatcherCode false
open PySem PySem.W PyProof.Rows PySem.Calls PySem.Spec
set_option maxRecDepth 100000
set_option maxHeartbeats 4000000
set_option tactic.hygienic false
namespace Mine
noncomputable def setE (w : World) (o : Obj) : Prop := o = setObj #[] 0 (SetTable.fresh 0 0 (!w.params.followText "set-order"))
noncomputable def setF (w : World) (o : Obj) : Prop := ∃ ep, o = setObj #[(0, .bool false)] ep (t1 (!w.params.followText "set-order"))
noncomputable def setS (w : World) : Bool → Ob
  | false => setE w
  | true => setF w
theorem led_ok (w : World) : (!w.params.followText "set-order") = true ∨ w.params.followText "set-order" = true := by
  cases w.params.followText "set-order" <;> simp
section
variable {c : Cx} {σ : Sg} {env : Env} {pos : Pos}
theorem WP.setAdd {D : Addr} {b : Bool} {vs} {l l' : Led} {Q : Value → Sg → Prop} (u : LedSet D (setS c.w b) (setS c.w true) l l') (H : Q .none ⟨vs, l'⟩) : WP c ⟨vs, l⟩ (PySem.call (.builtin "set.add") [.ref D, .bool false] []) Q := by
  refine ⟨fun A h tk R Z p => ?_⟩
  obtain ⟨o, ho, hp⟩ := Z.get (σ := ⟨vs, l⟩) u.at
  cases b with
  | false =>
    have e : o = _ := hp
    subst e
    exact set_add0 ho fun h' tk' ep htk hg hs => ⟨h', tk', _, rfl, St.upd (σ := ⟨vs, l⟩) Z u hs ⟨_, hg, ep, rfl⟩, Nat.lt_of_lt_of_le p htk, H⟩
  | true =>
    obtain ⟨ep, rfl⟩ := hp
    exact set_add1 ho fun tk' htk => ⟨h, tk', ⟨vs, l'⟩, rfl, St.upd (σ := ⟨vs, l⟩) Z u (Heap.SameBut.refl _ _) ⟨_, ho, ep, rfl⟩, Nat.lt_of_lt_of_le p htk, H⟩
theorem WP.unpackS1 {x1 : Str} {p1 : Pos} {k : Nat} {D : Addr} {Q : Unit → Sg → Prop} (kn : Kn c σ D (setF c.w)) (H : WP c σ (storeName env x1 (.bool false)) Q) : WP c σ (assign (.Tuple [.Name x1 p1] k pos) env (.ref D)) Q := by
  refine ⟨fun A h tk R Z p₀ => ?_⟩
  obtain ⟨o, ho, ep, rfl⟩ := Z.kn kn
  rw [arm_assign_Tuple]
  refine wpAny_bind (wpAny_standAt ?_)
  unfold unpack
  have e1 : (assignEach [.Name x1 p1] env).findIdx? (·.1) = none := rfl
  rw [e1]
  refine wpAny_bind (wpAny_holding (set_unpack R.hd (led_ok c.w) ho fun h' he => ?_))
  have H' : WP c σ (assignInOrder ((assignEach [.Name x1 p1] env).map (·.2)) [.bool false]) Q := .inOrder (.asg (e := .Name x1 p1) (H.mono fun _ _ H => .inOrder0 H))
  exact H'.run A h' tk R (Z.ext fun b o q => he b o (Nat.ne_of_lt (Heap.lt_size q)) q) p₀
end
theorem compStart_set {prog : Program} {w : World} {A : Around} {s : Shared} {R : Result → Shared → Prop} {elt target iter ifs rest scope pos it acc env}
    (h0 : codeAny (model prog w) A (.compLoop (.SetComp elt (⟨target, iter, ifs, 0⟩ :: rest) scope pos) 0 it acc env) R s)
    (h : wpAny (model prog w) A (pyIter it) (fun it' s' => codeAny (model prog w) A (.compLoop (.SetComp elt (⟨target, iter, ifs, 0⟩ :: rest) scope pos) 0 it' acc env) R s')
      (notedBy (model prog w) A env fun x s' => R (.error x) s') s) :
    codeAny (model prog w) A (.compStart (.SetComp elt (⟨target, iter, ifs, 0⟩ :: rest) scope pos) 0 it acc env) R s := by
  refine codeAny_of_tree ?_
  show wpAny _ _ ((compStart (.SetComp elt (⟨target, iter, ifs, 0⟩ :: rest) scope pos) 0 it acc env).onRaise (fun x => do noteFrame x env; standAt theWindowsPlace)) _ _ s
  refine wpAny_notedAt ?_
  unfold compStart
  refine (?_ : wpAny _ _ (ask >>= _) _ _ s)
  refine wpAny_bind (wpAny_askSetting (wpAny_ite ?_))
  split
  · first
      | exact wpAny_bind (wpAny_pure (wpAny_pure (And.intro rfl h0)))
      | exact wpAny_pure (And.intro rfl h0)
  · first
      | exact wpAny_bind (wpAny_rule (wpAny_bind (wpAny_standAt (wpAny_bind (wpAny_mono h (fun it' s' h' => wpAny_pure (And.intro rfl h')) fun _ _ x => x)))))
      | (refine wpAny_bind (wpAny_rule ?_); show wpAny _ _ (standAt iter.pos >>= _) _ _ s; exact wpAny_bind (wpAny_standAt (wpAny_bind (wpAny_mono h (fun it' s' h' => wpAny_pure (And.intro rfl h')) fun _ _ x => x))))
theorem compTurn_set (elt target iter : PySem.Expr) (scope : Scope) (pos : Pos) (it acc : Value) (env : Env) :
    compTurn (.SetComp elt [⟨target, iter, [], 0⟩] scope pos) 0 it acc env = (do
      standAt iter.pos
      match ← pyNext it with
      | none => pure (.done .next)
      | some v =>
        letOwnedTupleGo target it v
        assign target env v
        (do let v ← eval elt env; standAt elt.pos; let _ ← call (.builtin "set.add") [acc, v])
        again (.compLoop (.SetComp elt [⟨target, iter, [], 0⟩] scope pos) 0 it acc env)) := by rfl
inductive EndD (I : Addr) (p : Ob) (D : Addr) (pD : Ob) (cL : Addr) (oL : Ob) (K : Led → Prop) (σ : Sg) : Prop
  | mk (l : Led) (h : List.Sublist ((I, p) :: (D, pD) :: (cL, oL) :: l) σ.news) (w : Value) (e : σ.vs = [some w]) (k : K l)
section
variable {c : Cx} {σ : Sg} {Q : Value → Sg → Prop} {ns : List Str} {gs : List (Str × Value)}
inductive SetK (c c2 : Cx) (I D d : Addr) (oL : Obj) (vs : List Value) (Inv : List Value → Led → Prop) : Nat → Shared → Prop
  | mk (h : Heap) (tk : Nat) (w : Option Value) (l : Led) (i : Nat) (b : Bool) (p0 : 0 < tk) (hi : i ≤ vs.length) (hb : b = false → i = 0) (Z : St c2 ⟨[w], (I, tupIt d i) :: (D, setS c.w b) :: (c.L, (· = oL)) :: l⟩ h) (hI : Inv (vs.drop i) l) : SetK c c2 I D d oL vs Inv (vs.length - i) ⟨h, c.g, c.d, tk, c.os⟩
theorem set_loop {A : Around} {elt iter : PySem.Expr} {x : Str} {px pos : Pos} {scope : Scope} {cl : List (Str × Addr)} {C I D d : Addr} {oL : Obj} {vs : List Value} {Inv : List Value → Led → Prop} {R : Result → Shared → Prop} {h : Heap} {tk : Nat} {l : Led} {w0 : Option Value}
    (Dk : EnvOk c ns gs) (S : ScopeOk scope x) (hsrc : ∀ rest l, Inv rest l → Src c l true d vs)
    (T : ∀ I p D pD v rest l oL, Inv (v :: rest) l → WP (c.comp scope cl x C) ⟨[some v], (I, p) :: (D, pD) :: (c.L, oL) :: l⟩ (eval elt (c.comp scope cl x C).env) (fun y σ4 => y = .bool false ∧ EndD I p D pD c.L oL (Inv rest) σ4))
    (hI0 : Inv vs l) (Rm : Room A c.dp c.un) (p0 : 0 < tk)
    (Z : St (c.comp scope cl x C) ⟨[w0], (I, tupIt d 0) :: (D, setE c.w) :: (c.L, (· = oL)) :: l⟩ h)
    (hR : ∀ h tk w l b, 0 < tk → St (c.comp scope cl x C) ⟨[w], (D, setS c.w b) :: (c.L, (· = oL)) :: l⟩ h → Inv [] l → (b = false → vs = []) → R (.ok .next) ⟨h, c.g, c.d, tk, c.os⟩) :
    codeAny (model PR c.w) A (.compLoop (.SetComp elt [⟨.Name x px, iter, [], 0⟩] scope pos) 0 (.ref I) (.ref D) (compEnvC scope cl C c.env)) R ⟨h, c.g, c.d, tk, c.os⟩ := by
  refine codeAny_loop rfl (SetK c (c.comp scope cl x C) I D d oL vs Inv) ?_ vs.length (.mk h tk w0 l 0 false p0 (Nat.zero_le _) (fun _ => rfl) Z hI0)
  intro k s K
  induction K with | mk h tk w l i b p0 hi hb Z hI => ?_
  show wpAny _ A ((compTurn (.SetComp elt [⟨.Name x px, iter, [], 0⟩] scope pos) 0 (.ref I) (.ref D) (compEnvC scope cl C c.env)).onRaise (fun x => do noteFrame x (compEnvC scope cl C c.env); theTreesLotGoes x)) _ _ _
  refine wpAny_noted ?_
  rw [compTurn_set]
  refine wpAny_bind (wpAny_standAt (wpAny_bind ?_))
  have hk : Kn (c.comp scope cl x C) ⟨[w], (D, setS c.w b) :: (c.L, (· = oL)) :: l⟩ d (tup vs) := by
    cases hsrc _ _ hI with
    | tuple k => exact k.comp fun q hq => .tail _ (.tail _ hq)
  have ok : ItOk (c.comp scope cl x C) (tupIt d) vs.length (fun i v => vs[i]? = some v) (fun σ => Kn (c.comp scope cl x C) σ d (tup vs)) := ItOk.tuple
  by_cases hlt : i < vs.length
  · refine ok.go (σ := ⟨[w], (D, setS c.w b) :: (c.L, (· = oL)) :: l⟩) Rm Z p0 hk hlt fun v h1 tk1 p1 hv Z1 => ?_
    dsimp only
    refine wpAny_bind (wpAny_of_eq (a := ()) (by rfl) ?_)
    have Dc := Dk.comp (cl := cl) (C := C) S
    have W1 : WP (c.comp scope cl x C) ⟨[w], (I, tupIt d (i + 1)) :: (D, setS c.w b) :: (c.L, (· = oL)) :: l⟩ (assign (.Name x px) (compEnvC scope cl C c.env) v) (fun _ σ' => σ' = ⟨[some v], (I, tupIt d (i + 1)) :: (D, setS c.w b) :: (c.L, (· = oL)) :: l⟩) :=
      .asg (e := .Name x px) (.st Dc .head rfl)
    refine wpAny_bind (W1.runEq Rm Z1 p1 fun _ h2 tk2 Z2 p2 => ?_)
    have e : vs.drop i = v :: vs.drop (i + 1) := by
      obtain ⟨h1, h2⟩ := List.getElem?_eq_some_iff.mp hv
      rw [List.drop_eq_getElem_cons h1, h2]
    rw [e] at hI
    refine wpAny_bind (wpAny_bind ((T I _ D (setS c.w b) v _ l (· = oL) hI).runK Rm Z2 p2 ?_))
    rintro y h4 tk4 σ4 Z4 p4 ⟨rfl, l', hsub, w', hw', hI'⟩
    have Z5 := Z4.sub hsub
    rw [hw'] at Z5
    refine wpAny_bind (wpAny_standAt ?_)
    have W2 : WP (c.comp scope cl x C) ⟨[some w'], (I, tupIt d (i + 1)) :: (D, setS c.w b) :: (c.L, (· = oL)) :: l'⟩ (PySem.call (.builtin "set.add") [.ref D, .bool false]) (fun _ σ' => σ' = ⟨[some w'], (I, tupIt d (i + 1)) :: (D, setS c.w true) :: (c.L, (· = oL)) :: l'⟩) :=
      .setAdd (c := c.comp scope cl x C) (b := b) (.tail .head) rfl
    refine wpAny_bind (W2.runEq Rm Z5 p4 fun _ h6 tk6 Z6 p6 => ?_)
    refine wpAny_pure (wpAny_pure ⟨rfl, vs.length - (i + 1), Nat.sub_lt_sub_left hlt (Nat.lt_succ_self i), .mk h6 tk6 (some w') l' (i + 1) true p6 hlt (fun q => by cases q) Z6 hI'⟩)
  · have hin : i = vs.length := Nat.le_antisymm hi (Nat.not_lt.mp hlt)
    rw [hin, List.drop_length] at hI
    refine ok.fin (σ := ⟨[w], (D, setS c.w b) :: (c.L, (· = oL)) :: l⟩) Rm (hin ▸ Z) p0 hk fun h1 tk1 p1 Z1 => ?_
    exact wpAny_pure (hR _ _ _ _ b p1 Z1 hI (fun q => by have := hb q; rw [hin] at this; exact List.length_eq_zero_iff.mp this))
end
end Mine
end
section
set_option genInjectivity false
set_option genSizeOf false
set_option genCtorIdx false
set_option bootstrap.genMatcherCode false
open PySem PySem.W PyProof.Rows PySem.Calls PySem.Spec
set_option maxRecDepth 100000
set_option maxHeartbeats 4000000
set_option tactic.hygienic false
namespace Mine
section
variable {c : Cx} {σ : Sg} {Q : Value → Sg → Prop} {ns : List Str} {gs : List (Str × Value)}
theorem set_block {A : Around} {elt iter : PySem.Expr} {x : Str} {px pos : Pos} {scope : Scope} {cl : List (Str × Addr)} {I d : Addr} {vals : List Value} {Inv : List Value → Led → Prop} {RR : Value → Addr → Result → Shared → Prop} {h : Heap} {tk : Nat} {vs} {l : Led}
    (Dk : EnvOk c ns gs) (S : ScopeOk scope x) (hsrc : ∀ rest l, Inv rest l → Src c l true d vals)
    (T : ∀ C I p D pD v rest l oL, Inv (v :: rest) l → WP (c.comp scope cl x C) ⟨[some v], (I, p) :: (D, pD) :: (c.L, oL) :: l⟩ (eval elt (c.comp scope cl x C).env) (fun y σ4 => y = .bool false ∧ EndD I p D pD c.L oL (Inv rest) σ4))
    (hI0 : Inv vals l) (Rm : Room A c.dp c.un) (p0 : 0 < tk)
    (Z : St c ⟨vs, (I, tupIt d 0) :: l⟩ h)
    (hR : ∀ D C h tk oC l b, 0 < tk → St c ⟨vs, (C, (· = oC)) :: (D, setS c.w b) :: l⟩ h → (∃ m, h.Ns C m) → Inv [] l → (b = false → vals = []) → RR (.ref D) C (.ok .next) ⟨h, c.g, c.d, tk, c.os⟩) :
    wpAny (model PR c.w) A (newSet (.type "set")) (fun acc s₃ => wpAny (model PR c.w) A (newFunctionEnv scope c.env.globals cl [] c.env.qual none .none (some c.env)) (fun cenv s₄ =>
      codeAny (model PR c.w) A (.compStart (.SetComp elt [⟨.Name x px, iter, [], 0⟩] scope pos) 0 (.ref I) acc { cenv with scope := relabel scope c.env }) (RR acc cenv.locals) s₄) NoE s₃) NoE ⟨h, c.g, c.d, tk, c.os⟩ := by
  refine newSet_ok (wpAny_newFunctionEnv S.cell (by intro y hy; simp at hy) (fun h₁ hns₁ hsb₁ => ?_) S.kind)
  have Z1 := Z.push (setObj #[] 0 (SetTable.fresh 0 0 (!c.w.params.followText "set-order"))) (setE c.w) rfl rfl
  dsimp only at hns₁ hsb₁ Z1 ⊢
  generalize hH2 : h.push (setObj #[] 0 (SetTable.fresh 0 0 (!c.w.params.followText "set-order"))) = H2 at hns₁ hsb₁ Z1 ⊢
  obtain ⟨oL, esL, epL, hL, rL⟩ := Z1.fr.ns
  have old : ∀ b o, H2.get? b = some o → h₁.get? b = some o := fun b o e => hsb₁.extBut b o (Nat.ne_of_lt (Heap.lt_size e)) (Heap.get?_push_of_some _ e)
  have hL0 : c.h₀.get? c.L = none := by
    cases q : c.h₀.get? c.L with
    | none => rfl
    | some o => exact absurd (Heap.lt_size q) (Nat.not_lt.mpr Z1.fr.above)
  have Z2 : St (c.comp scope cl x H2.objs.size) ⟨[none], (I, tupIt d 0) :: (h.objs.size, setE c.w) :: (c.L, (· = oL)) :: l⟩ h₁ := by
    have Zp : St c ⟨vs, (I, tupIt d 0) :: (h.objs.size, setE c.w) :: l⟩ H2 := Z1.perm (List.Perm.swap _ _ _)
    refine ⟨⟨?_, fun b o e => old b o (Zp.keep b o e), ?_⟩, ?_, ?_⟩
    · have e : (fun x => List.lookup x ([] : List (Str × Value)).reverse) = slotGet [x] [none] := by
        funext y; simp [slotGet]
      rw [e] at hns₁
      exact hns₁
    · exact Nat.le_of_lt (Nat.lt_of_le_of_lt Zp.fr.above (Heap.lt_size hL))
    · intro p hp
      have hne : ∀ {a o}, H2.get? a = some o → a ≠ H2.objs.size := fun e => Nat.ne_of_lt (Heap.lt_size e)
      have hm : p = (c.L, (· = oL)) ∨ p ∈ (I, tupIt d 0) :: (h.objs.size, setE c.w) :: l := by
        rcases List.mem_cons.mp hp with e | hp
        · exact .inr (by rw [e]; exact .head _)
        · rcases List.mem_cons.mp hp with e | hp
          · exact .inr (by rw [e]; exact .tail _ (.head _))
          · rcases List.mem_cons.mp hp with e | hp
            · exact .inl e
            · exact .inr (.tail _ (.tail _ hp))
      rcases hm with rfl | hm
      · exact ⟨⟨oL, old _ _ hL, rfl⟩, hne hL, hL0⟩
      · obtain ⟨⟨o, y1, y2⟩, y3, y4⟩ := Zp.nw p hm
        exact ⟨⟨o, old _ _ y1, y2⟩, hne y1, y4⟩
    · have nd := Zp.nd
      have hLn : ∀ p ∈ (I, tupIt d 0) :: (h.objs.size, setE c.w) :: l, p.1 ≠ c.L := fun p hp => (Zp.nw p hp).2.1
      simp only [List.map_cons, List.nodup_cons, List.mem_cons, not_or] at nd ⊢
      refine ⟨⟨nd.1.1, ?_, nd.1.2⟩, ⟨?_, nd.2.1⟩, ?_, nd.2.2⟩
      · exact hLn _ (.head _)
      · exact hLn _ (.tail _ (.head _))
      · intro hm
        obtain ⟨p, hp, e⟩ := List.mem_map.mp hm
        exact hLn p (.tail _ (.tail _ hp)) e
  have hL1 : h₁.get? c.L = some oL := old _ _ hL
  have Z0 : St c ⟨vs, []⟩ h₁ := (Z1.ext old).sub (List.nil_sublist _)
  have loop : ∀ tk', 0 < tk' → codeAny (model PR c.w) A (.compLoop (.SetComp elt [⟨.Name x px, iter, [], 0⟩] scope pos) 0 (.ref I) (.ref h.objs.size) (compEnvC scope cl H2.objs.size c.env)) (RR (.ref h.objs.size) H2.objs.size) ⟨h₁, c.g, c.d, tk', c.os⟩ := by
    intro tk' p'
    refine set_loop Dk S hsrc (T H2.objs.size) hI0 Rm p' Z2 ?_
    intro h3 tk3 w l3 b p3 Z3 hI hb
    have Z4 := Z3.perm (List.Perm.swap _ _ _)
    obtain ⟨oC, Z5⟩ := St.outer Z0 hL1 Z4
    exact hR _ _ _ _ oC l3 b p3 Z5 ⟨_, Z3.fr.ns⟩ hI hb
  refine compStart_set (loop _ p0) ?_
  exact SelfIt.tuple _ _ _ _ I _ (Z2.get (a := I) (p := tupIt d 0) .head) (loop _ p0)
theorem WP.setComp {elt iter : PySem.Expr} {x : Str} {px pos : Pos} {scope : Scope} {cl : List (Str × Addr)} (Dk : EnvOk c ns gs) (S : ScopeOk scope x) (hcl : closureFor scope c.env = Pure.pure cl)
    (H : WP c σ (eval iter c.env) (fun v σ₁ => Ex3 fun (d : Addr) (vals : List Value) (Inv : List Value → Led → Prop) => A6 (v = .ref d) (vals ≠ []) ((∀ rest l, Inv rest l → Src c l true d vals)) ((∀ C I p D pD v rest l oL, Inv (v :: rest) l → WP (c.comp scope cl x C) ⟨[some v], (I, p) :: (D, pD) :: (c.L, oL) :: l⟩ (eval elt (c.comp scope cl x C).env) (fun y σ4 => y = .bool false ∧ EndD I p D pD c.L oL (Inv rest) σ4))) (Inv vals σ₁.news) (∀ D l, Inv [] l → Q (.ref D) ⟨σ₁.vs, (D, setF c.w) :: l⟩)))
    (hs : ∀ v, foldedSetIterable iter c.env v = Pure.pure v := by intro _; rfl) : WP c σ (eval (.SetComp elt [⟨.Name x px, iter, [], 0⟩] scope pos) c.env) Q := by
  refine ⟨fun A h tk R Z p₀ => ?_⟩
  rw [arm_eval_SetComp]
  refine wpAny_comprehension_free (use := none) rfl hs hcl S.kind S.names (H.runK R Z p₀ ?_)
  rintro v h1 tk1 σ1 Z1 p1 ⟨d, vals, Inv, rfl, hne, hsrc, HT, hI0, HQ⟩
  have HI : IterOf c σ1 (.ref d) (tupIt d) := by
    cases hsrc _ _ hI0 with
    | tuple k => exact IterOf.tuple (k.mono fun _ h => h)
  refine wpAny_mono (wpAny_toks_of (n := 1) p1 (HI.run A h1 tk1 R Z1 p1)) ?_ fun _ _ e => e.2
  rintro r _ ⟨p2, I, rfl, h2, tk2, σ2, rfl, Z2, rfl⟩
  refine set_block (RR := fun acc C => compPost (model PR c.w) A NoE none (Post c Q) acc C) Dk S hsrc HT hI0 R p2 Z2 ?_
  intro D C h3 tk3 oC l b p3 Z3 ⟨m, hm⟩ hI hb
  cases b with
  | false => exact absurd (hb rfl) hne
  | true => exact ⟨m, hm, fun h' hs' => ⟨h', tk3, ⟨σ1.vs, (D, setF c.w) :: l⟩, rfl, Z3.letGo hs', p3, HQ D l hI⟩⟩
end
end Mine
end
section
set_option maxRecDepth 100000
set_option maxHeartbeats 8000000
set_option compiler.extract_closed false
set_option hygiene false
set_option tactic.hygienic false
local macro_rules | `(tactic| walk_at "om") => `(tactic| first | (apply lit_le; (focus assumption); (focus rfl)) | (apply lit_eq; (focus assumption); (focus rfl)) | lia | omega)
local macro_rules | `(tactic| walk_at "z") => `(tactic| focus (first | lia | (simp only [List.length_append, List.length_cons, List.length_nil]; lia) | decide))
local macro_rules | `(tactic| walk_at "q_sz") => `(tactic| first | lia | (simp only [List.length_append, List.length_cons, List.length_nil]; lia) | decide)
local macro_rules | `(tactic| walk_at "d") => `(tactic| focus assumption)
local macro_rules | `(tactic| walk_at "a") => `(tactic| focus (with_unfolding_all exact Is.mk))
local macro_rules | `(tactic| walk_at "l") => `(tactic| focus (first | exact SlotAt.head | exact SlotAt.s1 | exact SlotAt.s2 | exact SlotAt.s3 | exact SlotAt.s4 | exact SlotAt.s5 | exact SlotAt.s6 | exact SlotAt.s7 | exact SlotAt.s8 | exact SlotAt.s9))
local macro_rules | `(tactic| walk_at "w") => `(tactic| focus (first | exact SlotSet.head | exact SlotSet.s1 | exact SlotSet.s2 | exact SlotSet.s3 | exact SlotSet.s4 | exact SlotSet.s5 | exact SlotSet.s6 | exact SlotSet.s7 | exact SlotSet.s8 | exact SlotSet.s9))
local macro_rules | `(tactic| walk_at "wt") => `(tactic| focus (intro _; walk_at "w"))
local macro_rules | `(tactic| walk_at "g") => `(tactic| focus ((repeat (first | exact GAt.head | apply GAt.tail)); done))
local macro_rules | `(tactic| walk_at "led") => `(tactic| focus ((repeat (first | exact LedAt.head | exact LX.a_qi | exact LX.a_di | exact LX.a_q | exact LX.a_dx | exact LX.a_qc | apply LedAt.tail)); done))
local macro_rules | `(tactic| walk_at "q_lset") => `(tactic| focus ((repeat (first | exact LedSet.head | exact LX.sc | apply LedSet.tail)); done))
local macro_rules | `(tactic| walk_at "k") => `(tactic| focus (first | assumption | (apply Old.kn; assumption) | (apply Kn.led; walk_at "led")))
local macro_rules | `(tactic| walk_at "q_kn") => `(tactic| walk_at "k")
local macro_rules | `(tactic| walk_at "at") => `(tactic| focus ((repeat (first | exact AtAt.head | (apply AtAt.tail; (focus (with_unfolding_all rfl))))); done))
local macro_rules | `(tactic| walk_at "no") => `(tactic| focus ((repeat (first | exact AtNo.nil | (apply AtNo.cons; (focus (with_unfolding_all rfl))))); done))
local macro_rules | `(tactic| walk_at "as") => `(tactic| focus ((repeat (first | exact AtSet.head | exact AtSet.nil | (apply AtSet.tail; (focus (with_unfolding_all rfl))))); done))
local macro_rules | `(tactic| walk_at "sa") => `(tactic| focus (first | exact sa_state (by with_unfolding_all rfl) | exact sa_token (by with_unfolding_all rfl) | exact sa_instream | exact sa_posix | exact sa_eof | exact sa_commenters | exact sa_wordchars | exact sa_whitespace | exact sa_ws | exact sa_quotes | exact sa_escape | exact sa_escapedquotes | exact sa_pushback | exact sa_debug | exact sa_filestack | exact sa_source | exact sa_pushed))
local macro_rules | `(tactic| walk_at "su") => `(tactic| focus (first | exact su_ws))
local macro_rules | `(tactic| walk_at "im") => `(tactic| focus (first | exact im1 | exact im2 | exact im3 | exact im4 | exact im5))
local macro_rules | `(tactic| walk_at "v") => `(tactic| focus (with_reducible first | (apply EvV.ld; walk_at "d"; walk_at "l") | exact EvV.kN | exact EvV.kB | (apply EvV.lx; walk_at "d"; walk_at "l"; walk_at "sa") | (apply EvV.pch; walk_at "d"; walk_at "l"; walk_at "z"; walk_at "z") | (apply EvV.sh; walk_at "d"; walk_at "l"; walk_at "k"; walk_at "k"; walk_at "sa") | (apply EvV.io; walk_at "d"; walk_at "l"; walk_at "k"; walk_at "k"; walk_at "a"; walk_at "at"; walk_at "a")))
local macro_rules | `(tactic| walk_at "e") => `(tactic| focus (with_reducible first | exact EvS.k | (apply EvS.add; walk_at "e"; walk_at "e"; walk_at "z") | (apply EvS.of; walk_at "v")))
local macro_rules | `(tactic| walk_at "i") => `(tactic| focus (with_reducible first | exact EvI.k | (apply EvI.neg; walk_at "i") | (apply EvI.add; walk_at "i"; walk_at "i") | (apply EvI.len; walk_at "d"; walk_at "g"; walk_at "e"; walk_at "z"; walk_at "a") | (apply EvI.of; walk_at "v")))
local macro_rules | `(tactic| walk_at "n") => `(tactic| focus (with_reducible ((repeat (apply EvL.cons; walk_at "v"; walk_at "a")); exact EvL.nil)))
local macro_rules | `(tactic| walk_at "r") => `(tactic| focus (with_reducible first | exact Tr.bo | (apply Tr.st; walk_at "z") | (apply Tr.dq; walk_at "k"; walk_at "dz")))
local macro_rules | `(tactic| walk_at "dz") => `(tactic| focus (first | (with_unfolding_all exact Nat.le_of_ble_eq_true rfl) | (simp; done)))
local macro_rules | `(tactic| walk_at "b") => `(tactic| focus (with_reducible first | assumption | exact rfl | exact ne_cons | exact ne_nil | exact ie_cons | exact ie_nil | exact nt_str | exact nn_str | exact nb_str | exact nt_ref | exact nn_ref | exact nt_none | exact nn_none | exact nn_int | exact wc123 | exact wc44 | exact wc125 | exact wc39 | exact wc34 | (apply not_t; walk_at "b") | (apply not_f; walk_at "b") | decide))
local macro_rules | `(tactic| walk_at "T") => `(tactic| focus (with_reducible apply TT.mk'; walk_at "t"; walk_at "b"))
local macro_rules | `(tactic| walk_at "F") => `(tactic| focus (with_reducible apply TF.mk'; walk_at "t"; walk_at "b"))
local macro_rules | `(tactic| walk_at "t") => `(tactic| focus (with_reducible first | (apply TB.not; walk_at "t") | (apply TB.in2; walk_at "e") | exact TB.and0 | exact TB.or0 | (apply TB.andT; walk_at "T"; walk_at "t") | (apply TB.andF; walk_at "F") | (apply TB.orF; walk_at "F"; walk_at "t") | (apply TB.eqS; walk_at "e"; walk_at "e"; walk_at "a") | (apply TB.inS; walk_at "e"; walk_at "e"; walk_at "a") | (apply TB.isN; walk_at "v"; walk_at "v"; walk_at "a") | (apply TB.isntN; walk_at "v"; walk_at "v"; walk_at "a") | (apply TB.geI; walk_at "i"; walk_at "i"; walk_at "a") | (apply TB.eqI; walk_at "i"; walk_at "i"; walk_at "a") | (apply TB.gtI; walk_at "i"; walk_at "i"; walk_at "a") | (apply TB.neS; walk_at "e"; walk_at "e"; walk_at "a") | (apply TB.ninS; walk_at "e"; walk_at "e"; walk_at "a") | (apply TB.leaf; walk_at "v"; walk_at "r"; walk_at "a")))
local macro_rules | `(tactic| walk_at "f") => `(tactic| focus exact isDef _ _ (by decide))
local macro_rules | `(tactic| walk_at "q1") => `(tactic| with_reducible first
  | (apply WLN.mk; intro _ _ _ _ _ _ _ _)
  | refine (by assumption : Le _ _) _ ?_
  | refine (by assumption : LeV _ _) _ _ ?_
  | (show WL _ _ _ _ _ _ _ _; first
      | (apply WL.iff; walk_at "t"; first
          | (apply IfB.nf; walk_at "b") | (apply IfB.t0; walk_at "b") | (apply IfB.f0; walk_at "b") | (apply IfB.tr; walk_at "b") | (apply IfB.fa; walk_at "b") | apply IfB.un0 | apply IfB.uN)
      | (apply WL.asV; walk_at "d"; walk_at "v"; walk_at "w"; walk_at "a")
      | (apply WL.asS; walk_at "d"; walk_at "e"; walk_at "wt"; walk_at "a"; intro _)
      | (apply WL.asI; walk_at "d"; walk_at "i"; walk_at "wt"; walk_at "a"; intro _)
      | (apply WL.reV; walk_at "v")
      | (apply WL.reS; walk_at "e"; intro _)
      | (apply WL.lxStV; walk_at "d"; walk_at "l"; walk_at "v"; walk_at "a") | (apply WL.lxStS; walk_at "d"; walk_at "l"; walk_at "e"; walk_at "a"; intro _) | (apply WL.lxTkV; walk_at "d"; walk_at "l"; walk_at "v"; walk_at "a") | (apply WL.lxTkS; walk_at "d"; walk_at "l"; walk_at "e"; walk_at "a"; intro _) | (apply WL.lxTkA; walk_at "d"; walk_at "l"; walk_at "e"; walk_at "z"; intro _) | (apply WL.lxLnA; walk_at "d"; walk_at "l"; walk_at "i"; intro _)
      | (apply WL.shV; walk_at "d"; walk_at "v"; walk_at "l"; walk_at "k"; walk_at "q_lset"; walk_at "su"; walk_at "a")
      | apply WL.brk
      | apply WL.cnt
      | apply WL.cons
      | apply WL.nil)
  | (show WS _ _ _ _ _ _ _ _; first
      | apply WS.If
      | apply WS.Return
      | refine WS.Assign ?_
      | apply WS.Try
      | refine WS.AssignAttr ?_
      | apply WS.AugAttr
      | refine WS.AssignTup ?_
      | apply WS.AugName
      | refine WS.ExprA ?_ (EnvOk.inter (by assumption)))
  | (show WB _ _ _ _ _ _; first
      | refine WB.cmp ?_
      | apply WB.not
      | apply WB.and
      | apply WB.or
      | apply WB.and0
      | apply WB.or0
      | refine WB.leaf ?_)
  | (show WP _ _ (eval (PySem.Expr.Name _ _) _) _; first
      | (apply WP.ld; walk_at "d"; walk_at "l")
      | (apply WP.gl; walk_at "d"; walk_at "g")
      | (apply WP.ldCell (by assumption); walk_at "k"))
  | (show WP _ _ (eval (PySem.Expr.Attribute _ _ _) _) _; first
      | (apply EvV.go; walk_at "v")
      | apply WP.xAttrN)
  | (show WP _ _ (eval (PySem.Expr.Call _ _ _ _) _) _; first
      | (apply WP.callD; walk_at "d"; walk_at "g"; walk_at "f"; walk_at "n"; walk_at "a")
      | refine WP.xMethP ?_
      | (apply EvI.go; apply EvI.len; walk_at "d"; walk_at "g"; walk_at "e"; walk_at "z"; walk_at "a"; intro _)
      | refine WP.xCall ?_
      | apply WP.xCallKw)
  | (show WP _ _ (eval _ _) _; first
      | apply WP.kNone
      | apply WP.kBool
      | (apply WP.kInt; intro _)
      | (apply WP.kX; intro _)
      | (apply WP.ifT; walk_at "T")
      | (apply WP.ifF; walk_at "F")
      | (apply EvS.go; walk_at "e"; intro _)
      | (apply EvI.go; walk_at "i"; intro _)
      | apply WP.xBin
      | apply WP.xList
      | apply WP.xTuple
      | apply WP.xSub
      | apply WP.xSlice
      | apply WP.xIf
      | refine WP.xCompare ?_)
  | (show WP _ _ (compareOp _ _ _) _; first
      | apply WP.isnot_self
      | apply WP.is_none
      | apply WP.isnot_none
      | refine WP.is_plain (by with_unfolding_all rfl) ?_
      | refine WP.isnot_plain (by with_unfolding_all rfl) ?_
      | apply WP.eq_int
      | apply WP.ne_int
      | apply WP.lt_int
      | apply WP.gt_int
      | apply WP.ge_int
      | apply WP.eq_str
      | apply WP.ne_str
      | apply WP.eq_str_none
      | apply WP.eq_none_none
      | apply WP.in_str
      | apply WP.notin_str)
  | (show WP _ _ (getAttr _ _ _) _; first
      | (apply WP.s8Get; walk_at "k"; walk_at "k"; walk_at "a"; walk_at "at"; walk_at "a"))
  | (show WP _ _ (setAttr _ _ _) _; first
      | (apply WP.ioSet; walk_at "k"; walk_at "q_lset"; walk_at "a"; walk_at "as"; walk_at "dz")
      | (apply WP.s8Set; walk_at "k"; walk_at "q_lset"; walk_at "a"; walk_at "as"; walk_at "dz"))
  | (show WP _ _ (getMethod _ _ _) _; first
      | apply gm_split | apply gm_replace | apply gm_join | apply gm_startswith | apply gm_endswith | apply gm_rfind | apply gm_find | apply gm_rstrip
      | (apply gm_append; walk_at "k") | (apply gm_extend; walk_at "k") | (apply gm_dpop; walk_at "k") | (apply gm_dappend; walk_at "k")
      | (apply WP.ioMeth; walk_at "k"; walk_at "k"; walk_at "im"; walk_at "no")
      | (apply WP.shGetTok; walk_at "k"; walk_at "k"; (focus exact sn_get_token))
      | (apply WP.shReadTok; walk_at "k"; walk_at "k"; (focus exact sn_read_token)))
  | (show WP _ _ (callWith _ _ _ _ _) _; first
      | refine WP.cwCls2 (sh_keep _) ?_
      | refine WP.cwI_0 (isDef _ _ (by decide)) ?_
      | refine WP.cwI_1 (isDef _ _ (by decide)) ?_
      | refine WP.cwI0 (isDef _ _ (by decide)) ?_
      | refine WP.cwCls (io_keep _) ?_
      | refine WP.cwT_0 ?_
      | (refine WP.dqNew ?_; intro _)
      | refine WP.cwB_0 ?_
      | refine WP.cwB_1 ?_
      | refine WP.cwB0 ?_)
  | (show WP _ _ (PySem.call _ _ _) _; first
      | apply WP.type_str
      | apply WP.type_int
      | apply WP.int_int
      | apply WP.isi_sb
      | apply WP.isi_ss
      | (apply WP.appendU; walk_at "q_lset"; walk_at "z")
      | (apply WP.dqAppend; walk_at "q_lset"; walk_at "dz"))
  | (show WP _ _ (truthy _) _; first
      | apply WP.tbool
      | (apply WP.tTuple; walk_at "k"; walk_at "z")
      | (apply WP.tS; walk_at "z")
      | (apply WP.dqTruth; walk_at "k"; walk_at "dz"))
  | (show WP _ _ (spliced _) _; first
      | (apply WP.sp2X; intro _ _ _ _ _)
      | refine WP.sp1 ?_
      | apply WP.sp0)
  | (show BR _ _ _; first
      | apply BR.tt
      | apply BR.ff
      | (apply BR.t; walk_at "b")
      | (apply BR.f; walk_at "b"))
  | (apply WP.st; walk_at "d"; walk_at "w")
  | (apply WP.stCell (by assumption); walk_at "q_lset")
  | apply WP.asgN
  | apply WP.pNone
  | apply WP.pSome
  | (apply WP.add_int; intro _)
  | (refine WP.nList (by simp) ?_; intro _)
  | (refine WP.nTuple (by simp) ?_; intro _)
  | (apply WP.add_str; walk_at "z"; intro _)
  | (apply WP.iadd_str; walk_at "z"; intro _)
  | (apply WP.unpackL4; (focus (first | (apply Old.kn; assumption) | walk_at "k")))
  | (apply WP.ldN; walk_at "d"; walk_at "l"))
local macro_rules | `(tactic| walk_at "q") => `(tactic| repeat walk_at "q1")
section
open PySem PySem.W PyProof.Rows PySem.Calls PySem.Spec
namespace Mine
theorem sumLen_two (n : T) : sumLen (n.map fun d => tx "\\" ++ [d]) = 2 * n.length := by
  have e6 : (tx "\\").length = 1 := by decide
  unfold sumLen
  induction n with
  | nil => rfl
  | cons d r ih => simp only [List.map_cons, List.sum_cons, List.length_cons, List.length_append, List.length_nil, ih, e6]; lia
theorem spelled_wc {c : Cx} {σ : Sg} {n : T} {tx tk : Tok} {w : Nat} {Q : Value → Sg → Prop} (hx : n.length ≤ 100) (hw : w < 3) (hd : 2 ≤ c.dp) (hu : 20 ≤ c.un) (H : ∀ t, Q (.str (S (spell n w)) t) σ) :
   WC c σ (.call (.ref 851) ⟨[.str (S n) tx, .int w tk], []⟩) Q := by
  have hr1 := replT_len 39 (Mine.tx "'\"'\"'") n (by decide)
  have hr2 := replT_len 92 (Mine.tx "\\\\") n (by decide)
  have hr3 := replT_len 34 (Mine.tx "\\\"") (replT 92 (Mine.tx "\\\\") n) (by decide)
  have e1 : (Mine.tx "'\"'\"'").length = 5 := by decide
  have e2 : (Mine.tx "\\\\").length = 2 := by decide
  have e3 : (Mine.tx "\\\"").length = 2 := by decide
  have e4 : (Mine.tx "'").length = 1 := by decide
  have e5 : (Mine.tx "\"").length = 1 := by decide
  have e6 : (Mine.tx "\\").length = 1 := by decide
  have e7 : (Mine.tx "").length = 0 := by decide
  have hl4 := joinT_nil_map (fun d => Mine.tx "\\" ++ [d]) n (fun d => by simp [e6])
  rw [e1] at hr1; rw [e2] at hr2; rw [e3] at hr3
  refine WC.pureCall ["name", "way"] [] [.str (S n) tx, .int w tk] 1 10 ["name", "way"] [some (.str (S n) tx), some (.int w tk)] [] ⟨⟨_, _, _, by rfl⟩, by rfl, by kernel_rfl⟩ (.of_eq (by rfl)) (by walk_at "om") (by walk_at "om") ?_
  intro c' hw' hdp hun D hk hn
  walk_at "q"
  refine ⟨fun hb => ?_, fun hb => ?_⟩
  · have h0 : w = 0 := by simpa using hb
    walk_at "q"
    refine WP.replaceX (d := 39) ?_ ?_ ?_ ?_ ?_ ?_ ?_ ?_
    iterate 3 assumption
    rfl; rfl; lia; (rw [e1]; lia)
    intro _
    walk_at "q"
    exact ⟨[], .refl _, by have := H; subst h0; exact this _⟩
  · walk_at "q"
    refine ⟨fun hb => ?_, fun hb => ?_⟩
    · have h0 : w = 1 := by
        have := beq_iff_eq.mp hb; lia
      walk_at "q"
      refine WP.replaceX (d := 92) ?_ ?_ ?_ ?_ ?_ ?_ ?_ ?_
      iterate 3 assumption
      rfl; rfl; lia; (rw [e2]; lia)
      intro _
      walk_at "q"
      refine WP.replaceX (d := 34) ?_ ?_ ?_ ?_ ?_ ?_ ?_ ?_
      iterate 3 assumption
      rfl; rfl; lia; (rw [e3]; lia)
      intro _
      walk_at "q"
      exact ⟨[], .refl _, by have := H; subst h0; exact this _⟩
    · have h0 : w = 2 := by
        have : w ≠ 0 := by rintro rfl; simp at *
        have : w ≠ 1 := by rintro rfl; simp at *
        lia
      walk_at "q"
      refine WP.compStrG (fun d => Mine.tx "\\" ++ [d]) (by rfl) ?_
      walk_at "q"
      refine ⟨n, tx, rfl, by lia, fun A C d u s m hn hm hd => kSign (by rfl) hn hm (by rw [e6]; lia), fun E ys hy => ?_⟩
      walk_at "q"
      refine WP.join (.led .head) hy (by rw [e7]; lia) ?_ ?_
      · rw [sumLen_two, List.length_map]; lia
      intro _
      exact ⟨[], List.nil_sublist _, by have := H; subst h0; exact this _⟩
end Mine
end
section
open PySem PySem.W PyProof.Rows PySem.Calls PySem.Spec
namespace Mine
noncomputable abbrev Kno (c : Cx) (σ : Sg) : Addr → Ob → Prop := fun a p => Kn c σ a p
inductive FreeK (c' : Cx) (l : Addr) (gap : T) (tg : Tok) (row : Addr) (f : Forest) (rest : List Value) : Sg → Prop
  | mk (r : Forest) (done : List Value) (x1 x2 x3 x4 x5 : Option Value) (rows : List T) (h1 : Kids (Old c') rest r) (h2 : r.Ok) (h3 : r.count ≤ 200) (h4 : r.depth ≤ f.depth) (h5 : sizeOf r ≤ sizeOf f) (h6 : rows ++ rowsF r = rowsF f) (h7 : Strs done rows) : FreeK c' l gap tg row f rest ⟨[some (.ref l), some (.str (S gap) tg), some (.ref row), x1, x2, x3, x4, x5], [(row, lst done)]⟩
inductive PlainK (c' : Cx) (l : Addr) (row : Addr) (f : Forest) (rest : List Value) : Sg → Prop
  | mk (r : Forest) (done : List Value) (x2 x3 x4 x5 : Option Value) (rows : List T) (h1 : Kids (Old c') rest r) (h2 : r.Ok) (h3 : r.count ≤ 200) (h4 : r.depth ≤ f.depth) (h5 : sizeOf r ≤ sizeOf f) (h6 : rows ++ rowsP r = rowsP f) (h7 : Strs done rows) : PlainK c' l row f rest ⟨[some (.ref l), some (.ref row), x2, x3, x4, x5], [(row, lst done)]⟩
theorem free_wc : ∀ (f : Forest) {c : Cx} {σ : Sg} {l : Addr} {ks : List Value} {gap : T} {tg : Tok} {Q : Value → Sg → Prop}, Kids (Kno c σ) ks f → Kn c σ l (lst ks) → f.Ok → f.count ≤ 200 → Gap gap → f.depth + 4 ≤ c.dp → 30 * f.depth + 60 ≤ c.un →
    (∀ t, Q (.str (S (freeF f gap)) t) σ) → WC c σ (.call (.ref 858) ⟨[.ref l, .str (S gap) tg], []⟩) Q := by
  intro f
  induction h : sizeOf f using Nat.strongRecOn generalizing f with | ind sz IH => ?_
  intro c σ l ks gap tg Q hk hl hok hcn hg hd hu H
  have hgl := hg.len
  have hms := Forest.mass_le f
  have hfs := rowsF_sum f hok
  refine WC.pureCall ["kids", "gap"] ["row", "name", "way", "space", "below", "tail"] [.ref l, .str (S gap) tg] (f.depth + 3) (30 * f.depth + 57) ["kids", "gap", "row", "name", "way", "space", "below", "tail"] [some (.ref l), some (.str (S gap) tg), none, none, none, none, none, none] [("_law_free", .ref 858), ("_law_spelled", .ref 851)] ⟨⟨_, _, _, by rfl⟩, by rfl, by kernel_rfl⟩ (.of_eq (by rfl)) (by walk_at "om") (by walk_at "om") ?_
  intro c' hw' hdp hun D hkeep hn
  have hk' : Kids (Old c') ks f := hk.mono fun a p k => k.toOld hkeep hn
  have hl' : ∀ σ', Kn c' σ' l (lst ks) := fun σ' => hl.up hkeep hn
  set_option tactic.hygienic true in walk_at "q"
  rename_i row
  refine WS.forL ?_
  walk_at "q"
  refine ⟨l, ks, FreeK c' l gap tg row f, rfl, ?_, fun _ σ' _ => hl' σ', ?_, ?_⟩
  · exact .mk f [] none none none none none [] hk' hok hcn (Nat.le_refl _) (Nat.le_refl _) rfl .nil
  · intro v rest p I σ' K
    induction K with | mk r done x1 x2 x3 x4 x5 rows hkr hrok hrc hrd hrs hrows hdone => ?_
    cases hkr with
    | @leaf e n g w t u v vs r he hkr =>
      obtain ⟨hno, hw3, hgg, hro⟩ := hrok
      have hgl' := Gap.len hgg
      have hns := hno.short
      have hsl := spell_len n w
      simp only [Forest.count, Forest.depth] at hrc hrd
      have hlen := congrArg List.length hrows
      have hdl := hdone.len
      rw [List.length_append, rowsF_len, rowsF_len] at hlen
      simp only [Forest.top] at hlen
      have htl := Forest.top_le f
      have e0 : (tx "").length = 0 := by decide
      walk_at "q"
      refine spelled_wc (by walk_at "om") hw3 (by walk_at "om") (by walk_at "om") ?_
      intro _
      walk_at "q"
      refine .mk [(row, _)] (.refl _) (.mk r _ _ _ _ _ _ _ hkr hro ?_ ?_ ?_ ?_ (hdone.snoc _ _))
      · lia
      · lia
      · exact Nat.le_of_lt (Nat.lt_of_lt_of_le Forest.szL hrs)
      · rw [← hrows]; simp [rowsF]
    | @node e b n g w t u v ks' d vs r he hb hkd hkr =>
      obtain ⟨hno, hw3, hgg, hdo, hro⟩ := hrok
      have hgl' := Gap.len hgg
      have hns := hno.short
      have hsl := spell_len n w
      simp only [Forest.count, Forest.depth] at hrc hrd
      have hrd1 := (Nat.max_le.mp hrd).1
      replace hrd := (Nat.max_le.mp hrd).2
      have hlen := congrArg List.length hrows
      have hdl := hdone.len
      rw [List.length_append, rowsF_len, rowsF_len] at hlen
      simp only [Forest.top] at hlen
      have htl := Forest.top_le f
      have hwl := wrapF_len hgl' (rowsF d)
      have hds := rowsF_sum d hdo
      have hdm := Forest.mass_le d
      have hfl : (freeF d g).length ≤ 40000 := by unfold freeF; lia
      walk_at "q"
      refine IH (sizeOf d) ?_ d rfl (hkd.mono fun a p k => k.kn) hb.kn hdo (by walk_at "om") hgg (by walk_at "om") (by walk_at "om") ?_
      · exact Nat.lt_of_lt_of_eq (Nat.lt_of_lt_of_le Forest.szD hrs) h
      intro _
      walk_at "q"
      refine spelled_wc (by walk_at "om") hw3 (by walk_at "om") (by walk_at "om") ?_
      intro _
      walk_at "q"
      refine .mk [(row, _)] (.refl _) (.mk r _ _ _ _ _ _ _ hkr hro ?_ ?_ ?_ ?_ (hdone.snoc _ _))
      · lia
      · lia
      · exact Nat.le_of_lt (Nat.lt_of_lt_of_le Forest.szR hrs)
      · rw [← hrows]; simp [rowsF, freeF]
  · intro σ' K
    induction K with | mk r done x1 x2 x3 x4 x5 rows hkr hrok hrc hrd hrs hrows hdone => ?_
    cases hkr
    simp only [rowsF, List.append_nil] at hrows
    subst hrows
    have e1 : (tx ",").length = 1 := by decide
    have e2 : (tx "{").length = 1 := by decide
    have e3 : (tx "}").length = 1 := by decide
    have hj := joinT_len (tx "," ++ gap) (rowsF f)
    rw [List.length_append, e1] at hj
    have hm : (1 + gap.length) * (rowsF f).length ≤ 8 * (rowsF f).length := Nat.mul_le_mul_right _ (by walk_at "om")
    have hsm : ((rowsF f).map (·.length)).sum = sumL (rowsF f) := rfl
    walk_at "q"
    refine WP.join (.led .head) hdone (by rw [List.length_append]; lia) (by show sumL (rowsF f) + _ ≤ _; lia) ?_
    intro _
    walk_at "q"
    exact ⟨[], List.nil_sublist _, H _⟩
theorem plain_wc : ∀ (f : Forest) {c : Cx} {σ : Sg} {l : Addr} {ks : List Value} {Q : Value → Sg → Prop}, Kids (Kno c σ) ks f → Kn c σ l (lst ks) → f.Ok → f.count ≤ 200 → f.depth + 4 ≤ c.dp → 30 * f.depth + 60 ≤ c.un →
    (∀ t, Q (.str (S (plainF f)) t) σ) → WC c σ (.call (.ref 865) ⟨[.ref l], []⟩) Q := by
  intro f
  induction h : sizeOf f using Nat.strongRecOn generalizing f with | ind sz IH => ?_
  intro c σ l ks Q hk hl hok hcn hd hu H
  have hms := Forest.mass_le f
  have hfs := rowsP_sum f hok
  refine WC.pureCall ["kids"] ["row", "name", "way", "space", "below"] [.ref l] (f.depth + 3) (30 * f.depth + 57) ["kids", "row", "name", "way", "space", "below"] [some (.ref l), none, none, none, none, none] [("_law_spelled", .ref 851), ("_law_plain", .ref 865)] ⟨⟨_, _, _, by rfl⟩, by rfl, by kernel_rfl⟩ (.of_eq (by rfl)) (by walk_at "om") (by walk_at "om") ?_
  intro c' hw' hdp hun D hkeep hn
  have hk' : Kids (Old c') ks f := hk.mono fun a p k => k.toOld hkeep hn
  have hl' : ∀ σ', Kn c' σ' l (lst ks) := fun σ' => hl.up hkeep hn
  set_option tactic.hygienic true in walk_at "q"
  rename_i row
  refine WS.forL ?_
  walk_at "q"
  refine ⟨l, ks, PlainK c' l row f, rfl, ?_, fun _ σ' _ => hl' σ', ?_, ?_⟩
  · exact .mk f [] none none none none [] hk' hok hcn (Nat.le_refl _) (Nat.le_refl _) rfl .nil
  · intro v rest p I σ' K
    induction K with | mk r done x2 x3 x4 x5 rows hkr hrok hrc hrd hrs hrows hdone => ?_
    cases hkr with
    | @leaf e n g w t u v vs r he hkr =>
      obtain ⟨hno, hw3, hgg, hro⟩ := hrok
      have hns := hno.short
      have hsl := spell_len n 0
      simp only [Forest.count, Forest.depth] at hrc hrd
      have hlen := congrArg List.length hrows
      have hdl := hdone.len
      rw [List.length_append, rowsP_len, rowsP_len] at hlen
      simp only [Forest.top] at hlen
      have htl := Forest.top_le f
      have e0 : (tx "").length = 0 := by decide
      walk_at "q"
      refine spelled_wc (w := 0) (by walk_at "om") (by walk_at "om") (by walk_at "om") (by walk_at "om") ?_
      intro _
      walk_at "q"
      refine .mk [(row, _)] (.refl _) (.mk r _ _ _ _ _ _ hkr hro ?_ ?_ ?_ ?_ (hdone.snoc _ _))
      · lia
      · lia
      · exact Nat.le_of_lt (Nat.lt_of_lt_of_le Forest.szL hrs)
      · rw [← hrows]; simp [rowsP]
    | @node e b n g w t u v ks' d vs r he hb hkd hkr =>
      obtain ⟨hno, hw3, hgg, hdo, hro⟩ := hrok
      have hns := hno.short
      have hsl := spell_len n 0
      simp only [Forest.count, Forest.depth] at hrc hrd
      have hrd1 := (Nat.max_le.mp hrd).1
      replace hrd := (Nat.max_le.mp hrd).2
      have hlen := congrArg List.length hrows
      have hdl := hdone.len
      rw [List.length_append, rowsP_len, rowsP_len] at hlen
      simp only [Forest.top] at hlen
      have htl := Forest.top_le f
      have hwl := wrapP_len (rowsP d)
      have hds := rowsP_sum d hdo
      have hdm := Forest.mass_le d
      have hfl : (plainF d).length ≤ 40000 := by unfold plainF; lia
      walk_at "q"
      refine spelled_wc (w := 0) (by walk_at "om") (by walk_at "om") (by walk_at "om") (by walk_at "om") ?_
      intro _
      walk_at "q"
      refine IH (sizeOf d) ?_ d rfl (hkd.mono fun a p k => k.kn) hb.kn hdo (by walk_at "om") (by walk_at "om") (by walk_at "om") ?_
      · exact Nat.lt_of_lt_of_eq (Nat.lt_of_lt_of_le Forest.szD hrs) h
      intro _
      walk_at "q"
      refine .mk [(row, _)] (.refl _) (.mk r _ _ _ _ _ _ hkr hro ?_ ?_ ?_ ?_ (hdone.snoc _ _))
      · lia
      · lia
      · exact Nat.le_of_lt (Nat.lt_of_lt_of_le Forest.szR hrs)
      · rw [← hrows]; simp [rowsP, plainF]
  · intro σ' K
    induction K with | mk r done x2 x3 x4 x5 rows hkr hrok hrc hrd hrs hrows hdone => ?_
    cases hkr
    simp only [rowsP, List.append_nil] at hrows
    subst hrows
    have e1 : (tx ",").length = 1 := by decide
    have e2 : (tx "{").length = 1 := by decide
    have e3 : (tx "}").length = 1 := by decide
    have hj := joinT_len (tx ",") (rowsP f)
    rw [e1] at hj
    have hsm : ((rowsP f).map (·.length)).sum = sumL (rowsP f) := rfl
    walk_at "q"
    refine WP.join (.led .head) hdone (by walk_at "om") (by show sumL (rowsP f) + _ ≤ _; lia) ?_
    intro _
    walk_at "q"
    exact ⟨[], List.nil_sublist _, H _⟩
end Mine
end
section
open PySem PySem.W PyProof.Rows PySem.Calls PySem.Spec
namespace Mine
set_option tactic.hygienic true
section
variable {c : Cx} {σ : Sg} {Q : Value → Sg → Prop}
theorem WP.eqL_empty {d e : Addr} {vs : List Value} (k1 : Kn c σ d (lst vs)) (k2 : Kn c σ e (lst [])) (H : Q (.bool (decide (vs = []))) σ) : WP c σ (compareOp .Eq (.ref d) (.ref e)) Q := by
  by_cases h : vs = []
  · subst h; exact .eqL_nil k1 k2 (by simpa using H)
  · exact .eqL_ne k1 k2 (by simpa using h) (by simpa [h] using H)
end
theorem oneIf_top {f : Forest} {x : T} : oneIf f x = if f.top = 0 then [x] else [] := by cases f <;> simp [oneIf, Forest.top]
inductive DueK (c' : Cx) (l : Addr) (front : T) (tf : Tok) (rows : Addr) (f : Forest) (rest : List Value) : Sg → Prop
  | mk (r : Forest) (done : List Value) (x2 x3 x4 x5 : Option Value) (ts : List T) (rest0 : Led) (h1 : Kids (Old c') rest r) (h2 : r.Ok) (h3 : r.count ≤ 200) (h4 : r.depth ≤ f.depth) (h5 : sizeOf r ≤ sizeOf f) (h6 : ts ++ dueR r front = dueF f front) (h7 : Strs done ts) : DueK c' l front tf rows f rest ⟨[some (.ref l), some (.str (S front) tf), some (.ref rows), x2, x3, x4, x5], (rows, lst done) :: rest0⟩
theorem due_wc : ∀ (f : Forest) {c : Cx} {σ : Sg} {l : Addr} {ks : List Value} {front : T} {tf : Tok} {Q : Value → Sg → Prop}, Kids (Kno c σ) ks f → Kn c σ l (lst ks) → f.Ok → f.count ≤ 200 → front.length + 17 * f.depth ≤ 1000 → f.depth + 4 ≤ c.dp → 30 * f.depth + 60 ≤ c.un →
    (∀ d ys, Strs ys (dueF f front) → Q (.ref d) ⟨σ.vs, (d, lst ys) :: σ.news⟩) → WC c σ (.call (.ref 872) ⟨[.ref l, .str (S front) tf], []⟩) Q := by
  intro f
  induction h : sizeOf f using Nat.strongRecOn generalizing f with | ind sz IH => ?_
  intro c σ l ks front tf Q hk hl hok hcn hfl hd hu H
  have hms := dueR_len f front
  have h1l := oneIf_len f front
  refine WC.pureCall ["kids", "front"] ["rows", "name", "way", "space", "below"] [.ref l, .str (S front) tf] (f.depth + 3) (30 * f.depth + 57) ["kids", "front", "rows", "name", "way", "space", "below"] [some (.ref l), some (.str (S front) tf), none, none, none, none, none] [("_law_due", .ref 872)] ⟨⟨_, _, _, by rfl⟩, by rfl, by kernel_rfl⟩ (.of_eq (by rfl)) (by walk_at "om") (by walk_at "om") ?_
  intro c' hw' hdp hun D hkeep hn
  have hk' : Kids (Old c') ks f := hk.mono fun a p k => k.toOld hkeep hn
  have hl' : ∀ σ', Kn c' σ' l (lst ks) := fun σ' => hl.up hkeep hn
  refine WL.cons (WS.Assign (WP.mono (Q := fun v σ' => Ex3 fun rows first rest0 => A3 (v = .ref rows) (σ' = ⟨[some (.ref l), some (.str (S front) tf), none, none, none, none, none], (rows, lst first) :: rest0⟩) (Strs first (oneIf f front))) ?_ ?_))
  · walk_at "q"
    refine WP.eqL_empty (hl' _) (.led .head) ?_
    walk_at "q"
    have hlen := hk.len
    refine ⟨fun hb => ?_, fun hb => ?_⟩
    · walk_at "q"
      refine ⟨_, _, _, rfl, rfl, ?_⟩
      have : ks = [] := by simpa using hb
      subst this
      rw [oneIf_top, if_pos (by simpa using hlen.symm)]
      exact .cons .nil
    · walk_at "q"
      refine ⟨_, _, _, rfl, rfl, ?_⟩
      have : ks ≠ [] := by simpa using hb
      rw [oneIf_top, if_neg (by rw [← hlen]; simpa using this)]
      exact .nil
  rintro v σ' ⟨rows, first, rest0, rfl, rfl, hfirst⟩
  have hfl1 := hfirst.len
  have htx : (tx "/").length = 1 := by decide
  walk_at "q"
  refine WS.forL ?_
  walk_at "q"
  refine ⟨l, ks, DueK c' l front tf rows f, rfl, ?_, fun _ σ' _ => hl' σ', ?_, ?_⟩
  · exact .mk f first none none none none (oneIf f front) rest0 hk' hok hcn (Nat.le_refl _) (Nat.le_refl _) rfl hfirst
  · intro v rest p I σ' K
    induction K with | mk r done x2 x3 x4 x5 ts rest1 hkr hrok hrc hrd hrs hrows hdone => ?_
    have hlen := congrArg List.length hrows
    have hdl := hdone.len
    unfold dueF at hlen
    simp only [List.length_append] at hlen
    cases hkr with
    | @leaf e n g w t u v vs r he hkr =>
      obtain ⟨hno, hw3, hgg, hro⟩ := hrok
      have hns := hno.short
      simp only [Forest.count, Forest.depth] at hrc hrd
      walk_at "q"
      refine WP.extendU (.led .head) (.tail (.tail .head)) (by walk_at "q_sz") ?_
      walk_at "q"
      refine .mk _ (.cons _ (.refl _)) (.mk r _ _ _ _ _ _ _ hkr hro ?_ ?_ ?_ ?_ (hdone.snoc _ _))
      · lia
      · lia
      · exact Nat.le_of_lt (Nat.lt_of_lt_of_le Forest.szL hrs)
      · rw [← hrows]; simp [dueR]
    | @node e b n g w t u v ks' d vs r he hb hkd hkr =>
      obtain ⟨hno, hw3, hgg, hdo, hro⟩ := hrok
      have hns := hno.short
      simp only [Forest.count, Forest.depth] at hrc hrd
      have hrd1 := (Nat.max_le.mp hrd).1
      replace hrd := (Nat.max_le.mp hrd).2
      have hd1 := dueR_len d (front ++ n ++ tx "/")
      have hd2 := oneIf_len d (front ++ n ++ tx "/")
      walk_at "q"
      refine IH (sizeOf d) ?_ d rfl (hkd.mono fun a p k => k.kn) hb.kn hdo (by walk_at "om") (by simp only [List.length_append, htx]; lia) (by walk_at "om") (by walk_at "om") ?_
      · exact Nat.lt_of_lt_of_eq (Nat.lt_of_lt_of_le Forest.szD hrs) h
      intro E ys hys
      have hyl := hys.len
      unfold dueF at hyl
      rw [List.length_append] at hyl
      walk_at "q"
      refine WP.extendU (.led .head) (.tail (.tail .head)) (by walk_at "q_sz") ?_
      walk_at "q"
      refine .mk _ (.cons _ (.refl _)) (.mk r _ _ _ _ _ _ _ hkr hro ?_ ?_ ?_ ?_ (hdone.app hys))
      · lia
      · lia
      · exact Nat.le_of_lt (Nat.lt_of_lt_of_le Forest.szR hrs)
      · rw [← hrows]; simp [dueR, dueF]
  · intro σ' K
    induction K with | mk r done x2 x3 x4 x5 ts rest1 hkr hrok hrc hrd hrs hrows hdone => ?_
    cases hkr
    simp only [dueR, List.append_nil] at hrows
    subst hrows
    walk_at "q"
    exact ⟨[(rows, lst done)], .cons_cons _ (List.nil_sublist _), H _ _ hdone⟩
theorem aloneF_len : ∀ f : Forest, (aloneF f).length ≤ f.count
  | .nil => by simp [aloneF]
  | .leaf _ _ _ .nil => by simp [aloneF, Forest.count]
  | .leaf _ _ _ (.leaf ..) => by simp [aloneF]
  | .leaf _ _ _ (.node ..) => by simp [aloneF]
  | .node _ _ _ d .nil => by have := aloneF_len d; simp only [aloneF, Forest.count, List.length_cons]; lia
  | .node _ _ _ d (.leaf ..) => by simp [aloneF]
  | .node _ _ _ d (.node ..) => by simp [aloneF]
theorem aloneF_many {f : Forest} (h : f.top ≠ 1) : aloneF f = [] := by
  match f with
  | .nil => rfl
  | .leaf _ _ _ .nil => exact absurd rfl h
  | .leaf _ _ _ (.leaf ..) => rfl
  | .leaf _ _ _ (.node ..) => rfl
  | .node _ _ _ d .nil => exact absurd rfl h
  | .node _ _ _ d (.leaf ..) => rfl
  | .node _ _ _ d (.node ..) => rfl
theorem alone_wc : ∀ (f : Forest) {c : Cx} {σ : Sg} {l : Addr} {ks : List Value} {Q : Value → Sg → Prop}, Kids (Kno c σ) ks f → Kn c σ l (lst ks) → f.count ≤ 200 → f.depth + 4 ≤ c.dp → 30 * f.depth + 60 ≤ c.un →
    (∀ d ys, Strs ys (aloneF f) → Q (.ref d) ⟨σ.vs, (d, lst ys) :: σ.news⟩) → WC c σ (.call (.ref 900) ⟨[.ref l], []⟩) Q := by
  intro f
  induction h : sizeOf f using Nat.strongRecOn generalizing f with | ind sz IH => ?_
  intro c σ l ks Q hk hl hcn hd hu H
  have htl := Forest.top_le f
  have hkl := hk.len
  refine WC.pureCall ["kids"] [] [.ref l] (f.depth + 3) (30 * f.depth + 57) ["kids"] [some (.ref l)] [("len", .builtin "len"), ("_law_alone", .ref 900)] ⟨⟨_, _, _, by rfl⟩, by rfl, by kernel_rfl⟩ (.of_eq (by rfl)) (by walk_at "om") (by walk_at "om") ?_
  intro c' hw' hdp hun D hkeep hn
  have hk' : Kids (Old c') ks f := hk.mono fun a p k => k.toOld hkeep hn
  have hl' : ∀ σ', Kn c' σ' l (lst ks) := fun σ' => hl.up hkeep hn
  walk_at "q"
  refine WP.len_list (hl' _) (by walk_at "om") ?_
  intro _
  walk_at "q"
  refine ⟨fun hb => ?_, fun hb => ?_⟩
  · walk_at "q"
    rename_i E
    refine ⟨[(E, lst [])], .refl _, H _ _ ?_⟩
    rw [aloneF_many (by rw [← hkl]; intro e; rw [e] at hb; simp at hb)]
    exact .nil
  · have h1 : ks.length = 1 := by
      have := of_decide_eq_false (p := ¬ (ks.length : Int) = 1) (by simpa using hb)
      lia
    cases hk' with
    | nil => simp at h1
    | @leaf e n g w t u v vs r he hkr =>
      have h0 : vs = [] := by simpa using h1
      subst h0
      cases hkr
      walk_at "q"
      refine WP.itemL (hl' _) (by decide) (by walk_at "om") (by rfl) ?_
      walk_at "q"
      refine WP.itemL he.kn (by decide) (by simp) (by rfl) ?_
      walk_at "q"
      refine WP.itemL (hl' _) (by decide) (by walk_at "om") (by rfl) ?_
      walk_at "q"
      refine WP.itemL he.kn (by decide) (by simp) (by rfl) ?_
      walk_at "q"
      refine WP.add_list (.led (.tail .head)) (.led .head) (by simp) ?_
      intro E
      exact ⟨[(E, _)], .cons_cons _ (List.nil_sublist _), H _ _ (.cons .nil)⟩
    | @node e b n g w t u v ks' d vs r he hb' hkd hkr =>
      have h0 : vs = [] := by simpa using h1
      subst h0
      cases hkr
      simp only [Forest.count, Forest.depth] at hcn hd hu hdp hun
      have hal := aloneF_len d
      walk_at "q"
      refine WP.itemL (hl' _) (by decide) (by walk_at "om") (by rfl) ?_
      walk_at "q"
      refine WP.itemL he.kn (by decide) (by simp) (by rfl) ?_
      walk_at "q"
      refine WP.itemL (hl' _) (by decide) (by walk_at "om") (by rfl) ?_
      walk_at "q"
      refine WP.itemL he.kn (by decide) (by simp) (by rfl) ?_
      walk_at "q"
      refine WP.itemL (hl' _) (by decide) (by walk_at "om") (by rfl) ?_
      walk_at "q"
      refine WP.itemL he.kn (by decide) (by simp) (by rfl) ?_
      walk_at "q"
      refine IH (sizeOf d) ?_ d rfl (hkd.mono fun a p k => k.kn) hb'.kn (by walk_at "om") (by walk_at "om") (by walk_at "om") ?_
      · rw [← h]; simp; lia
      intro E ys hys
      have hyl := hys.len
      refine WP.add_list (.led (.tail .head)) (.led .head) (by simp; lia) ?_
      intro E2
      exact ⟨[(E2, _)], .cons_cons _ (List.nil_sublist _), H _ _ (.cons hys)⟩
end Mine
end
section
open PySem PySem.W PyProof.Rows PySem.Calls PySem.Spec
namespace Mine
theorem fspath_wc {c : Cx} {σ : Sg} {a : T} {t : Tok} {Q : Value → Sg → Prop} (hd : 2 ≤ c.dp) (hu : 20 ≤ c.un) (H : Q (.str (S a) t) σ) : WC c σ (.call (.ref 112) ⟨[.str (S a) t], []⟩) Q := by
  refine WC.pureCall ["path"] ["kind", "hook", "given"] [.str (S a) t] 1 10 ["path", "kind", "hook", "given"] [some (.str (S a) t), none, none, none] [("type", .type "type"), ("issubclass", .builtin "issubclass"), ("str", .type "str"), ("bytes", .type "bytes")] ⟨⟨_, _, _, by rfl⟩, by rfl, by kernel_rfl⟩ (.of_eq (by rfl)) (by walk_at "om") (by walk_at "om") ?_
  intro c' hw' hdp hun D hkeep hn
  walk_at "q"
  refine WP.issub (.led .head) ?_
  walk_at "q"
  exact ⟨[], List.nil_sublist _, H⟩
theorem get_sep_wc {c : Cx} {σ : Sg} {a : T} {t : Tok} {Q : Value → Sg → Prop} (hd : 2 ≤ c.dp) (hu : 20 ≤ c.un) (H : ∀ u, Q (.str (S (tx "/")) u) σ) : WC c σ (.call (.ref 126) ⟨[.str (S a) t], []⟩) Q := by
  refine WC.pureCall ["path"] [] [.str (S a) t] 1 10 ["path"] [some (.str (S a) t)] [("isinstance", .builtin "isinstance"), ("bytes", .type "bytes")] ⟨⟨_, _, _, by rfl⟩, by rfl, by kernel_rfl⟩ (.of_eq (by rfl)) (by walk_at "om") (by walk_at "om") ?_
  intro c' hw' hdp hun D hkeep hn
  walk_at "q"
  exact ⟨[], List.nil_sublist _, H _⟩
theorem join_wc {c : Cx} {σ : Sg} {a b : T} {t u : Tok} {Q : Value → Sg → Prop} (ha : a.length ≤ 100000) (hb : b.length ≤ 100000) (hd : 4 ≤ c.dp) (hu : 60 ≤ c.un) (H : ∀ u l, Q (.str (S (joinP a b)) u) ⟨σ.vs, l ++ σ.news⟩) : WC c σ (.call (.ref 133) ⟨[.str (S a) t, .str (S b) u], []⟩) Q := by
  have e1 : (tx "/").length = 1 := by decide
  refine WC.pureCallB ["a", "p"] ["sep", "path", "b"] 3 50 ["a", "p", "sep", "path", "b"] [("fspath", .ref 112), ("_get_sep", .ref 126)] ⟨⟨_, _, _, by rfl⟩, by rfl, by kernel_rfl⟩ (by walk_at "om") (by walk_at "om") ?_
  refine BW.tuple [.str (S b) u] (fun v => [("a", .str (S a) t), ("p", v)]) (by rfl) (by simp) ?_
  intro P
  refine ⟨[.str (S a) t, .ref P], rfl, rfl, ?_⟩
  intro c' hw' hdp hun D hkeep hn
  have hP : Old c' P (tup [.str (S b) u]) := hn _ (.head _)
  show WL c' ⟨[some (.str (S a) t), some (.ref P), none, none, none], []⟩ _ _ _ _ _ _
  have K : ∀ (t' : Tok), Q (.str (S (joinP a b)) t') ⟨σ.vs, [(P, tup [.str (S b) u])] ++ σ.news⟩ := fun t' => H t' _
  walk_at "q"
  refine fspath_wc (by walk_at "om") (by walk_at "om") ?_
  walk_at "q"
  refine get_sep_wc (by walk_at "om") (by walk_at "om") ?_
  intro ts
  walk_at "q"
  refine WS.forT ?_
  walk_at "q"
  refine ⟨P, _, fun rest σ' => (rest = [.str (S b) u] ∧ σ' = ⟨[some (.str (S a) t), some (.ref P), some (.str (S (tx "/")) ts), some (.str (S a) t), none], []⟩) ∨
    (rest = [] ∧ ∃ y t' x, y = joinP a b ∧ σ' = ⟨[some (.str (S a) t), some (.ref P), some (.str (S (tx "/")) ts), some (.str (S y) t'), x], []⟩), rfl, .inl ⟨rfl, rfl⟩, fun _ _ _ => hP.kn, ?_, ?_⟩
  · rintro v rest p I σ' (⟨e, rfl⟩ | ⟨e, _⟩)
    · obtain ⟨rfl, rfl⟩ := List.cons.inj e
      dsimp only
      walk_at "q"
      refine fspath_wc (by walk_at "om") (by walk_at "om") ?_
      walk_at "q"
      refine WP.startswith (d := 47) ?_
      walk_at "q"
      refine ⟨fun hb => ?_, fun hb => ?_⟩
      · walk_at "q"
        refine .mk [] (.refl _) (.inr ⟨rfl, _, _, _, ?_, rfl⟩)
        have h0 : b[0]? = some 47 := by simpa using hb
        rw [joinP, if_pos (.inl h0)]
      · have h0 : ¬ b[0]? = some 47 := by simpa using hb
        walk_at "q"
        refine ⟨fun hb => ?_, fun hb => ?_⟩
        · have h1 : a ≠ [] := by simpa using hb
          walk_at "q"
          refine WP.endswith (d := 47) ?_
          walk_at "q"
          refine ⟨fun hb => ?_, fun hb => ?_⟩
          · have h2 : a.getLast? = some 47 := by simpa using hb
            walk_at "q"
            refine .mk [] (.refl _) (.inr ⟨rfl, _, _, _, ?_, rfl⟩)
            rw [joinP, if_neg (by simp [h0, h1]), if_pos h2]
          · have h2 : ¬ a.getLast? = some 47 := by simpa using hb
            walk_at "q"
            refine .mk [] (.refl _) (.inr ⟨rfl, _, _, _, ?_, rfl⟩)
            rw [joinP, if_neg (by simp [h0, h1]), if_neg h2]
        · have h1 : a = [] := by simpa using hb
          walk_at "q"
          refine .mk [] (.refl _) (.inr ⟨rfl, _, _, _, ?_, rfl⟩)
          rw [joinP, if_pos (.inr h1)]
    · cases e
  · rintro σ' (⟨e, _⟩ | ⟨_, y, t', x, rfl, rfl⟩)
    · cases e
    · walk_at "q"
      exact ⟨[], List.nil_sublist _, K _⟩
end Mine
end
section
open PySem PySem.W PyProof.Rows PySem.Calls PySem.Spec
namespace Mine
theorem split_wc {c : Cx} {σ : Sg} {p hd tl : T} {t : Tok} {Q : Value → Sg → Prop} (hs : SplitAt p hd tl) (hp : p.length ≤ 50000) (hd' : 4 ≤ c.dp) (hu : 60 ≤ c.un) (H : ∀ u v a, Q (.ref a) ⟨σ.vs, (a, tup [.str (S hd) u, .str (S tl) v]) :: σ.news⟩) : WC c σ (.call (.ref 140) ⟨[.str (S p) t], []⟩) Q := by
  have e1 : (tx "/").length = 1 := by decide
  refine WC.pureCall ["p"] ["sep", "i", "head", "tail"] [.str (S p) t] 3 50 ["p", "sep", "i", "head", "tail"] [some (.str (S p) t), none, none, none, none] [("fspath", .ref 112), ("_get_sep", .ref 126), ("len", .builtin "len")] ⟨⟨_, _, _, by rfl⟩, by rfl, by kernel_rfl⟩ (.of_eq (by rfl)) (by walk_at "om") (by walk_at "om") ?_
  intro c' hw' hdp hun D hkeep hn
  walk_at "q"
  refine fspath_wc (by walk_at "om") (by walk_at "om") ?_
  walk_at "q"
  refine get_sep_wc (by walk_at "om") (by walk_at "om") ?_
  intro _
  walk_at "q"
  obtain ⟨⟨h1, rfl, rfl⟩ | ⟨rfl, h1, h2, h3⟩⟩ := hs
  · refine WP.rfind (d := 47) (rf_none h1) ?_
    intro _
    walk_at "q"
    refine WS.AssignSwap2 D (.tail _ (.tail _ (.tail _ (.head _)))) (.tail _ (.tail _ (.tail _ (.tail _ (.head _))))) rfl (by rfl) rfl rfl (by rfl) (by rfl) ?_
    walk_at "q"
    intro _
    refine WP.sTo (.led .head) (by walk_at "om") (by decide) (by walk_at "om") ?_
    intro _
    walk_at "q"
    intro _
    refine WP.sFrom (.led .head) (by walk_at "om") (by decide) (by walk_at "om") ?_
    intro _
    rw [show List.take ((-1 : Int) + 1).toNat tl = [] from rfl, show List.drop ((-1 : Int) + 1).toNat tl = tl from rfl]
    walk_at "q"
    refine ⟨_, _, _, rfl, .led .head, ?_⟩
    walk_at "q"
    exact ⟨[_], .cons_cons _ (List.nil_sublist _), H _ _ _⟩
  · refine WP.rfind (d := 47) (rf_some h1) ?_
    intro _
    walk_at "q"
    rw [List.length_append, List.length_cons] at hp
    refine WS.AssignSwap2 D (.tail _ (.tail _ (.tail _ (.head _)))) (.tail _ (.tail _ (.tail _ (.tail _ (.head _))))) rfl (by rfl) rfl rfl (by rfl) (by rfl) ?_
    have t1 : List.take ((hd.length : Int) + 1).toNat (hd ++ 47 :: tl) = hd ++ [47] := by
      have : ((hd.length : Int) + 1).toNat = hd.length + 1 := by lia
      rw [this]; simp [List.take_append, List.take_of_length_le]
    have t2 : List.drop ((hd.length : Int) + 1).toNat (hd ++ 47 :: tl) = tl := by
      have : ((hd.length : Int) + 1).toNat = hd.length + 1 := by lia
      rw [this]; simp [List.drop_append]
    walk_at "q"
    intro _
    refine WP.sTo (.led .head) (by simp; lia) (by walk_at "om") (by simp; lia) ?_
    intro _
    walk_at "q"
    intro _
    refine WP.sFrom (.led .head) (by simp; lia) (by walk_at "om") (by simp; lia) ?_
    intro _
    rw [t1, t2]
    walk_at "q"
    refine ⟨_, _, _, rfl, .led .head, ?_⟩
    walk_at "q"
    refine ⟨fun hb => ?_, fun hb => ?_⟩
    · walk_at "q"
      refine WP.mul_str (d := 47) (by simp; lia) ?_
      intro _
      walk_at "q"
      refine ⟨fun hb => ?_, fun hb => ?_⟩
      · walk_at "q"
        refine WP.rstrip (d := 47) (rstrip_one h3) (by simp; lia) ?_
        intro _
        walk_at "q"
        exact ⟨[_], .cons_cons _ (List.nil_sublist _), H _ _ _⟩
      · exact absurd hb (by simp [slashes_ne h2 h3])
    · exact absurd hb (by simp)
theorem dirname_wc {c : Cx} {σ : Sg} {p hd tl : T} {t : Tok} {Q : Value → Sg → Prop} (hs : SplitAt p hd tl) (hp : p.length ≤ 50000) (hd' : 4 ≤ c.dp) (hu : 60 ≤ c.un) (H : ∀ u, Q (.str (S hd) u) σ) : WC c σ (.call (.ref 147) ⟨[.str (S p) t], []⟩) Q := by
  have e1 : (tx "/").length = 1 := by decide
  refine WC.pureCall ["p"] ["sep", "i", "head"] [.str (S p) t] 3 50 ["p", "sep", "i", "head"] [some (.str (S p) t), none, none, none] [("fspath", .ref 112), ("_get_sep", .ref 126), ("len", .builtin "len")] ⟨⟨_, _, _, by rfl⟩, by rfl, by kernel_rfl⟩ (.of_eq (by rfl)) (by walk_at "om") (by walk_at "om") ?_
  intro c' hw' hdp hun D hkeep hn
  walk_at "q"
  refine fspath_wc (by walk_at "om") (by walk_at "om") ?_
  walk_at "q"
  refine get_sep_wc (by walk_at "om") (by walk_at "om") ?_
  intro _
  walk_at "q"
  obtain ⟨⟨h1, rfl, rfl⟩ | ⟨rfl, h1, h2, h3⟩⟩ := hs
  · refine WP.rfind (d := 47) (rf_none h1) ?_
    intro _
    walk_at "q"
    intro _
    refine WP.sTo (.led .head) (by walk_at "om") (by decide) (by walk_at "om") ?_
    intro _
    rw [show List.take ((-1 : Int) + 1).toNat tl = [] from rfl]
    walk_at "q"
    exact ⟨[], List.nil_sublist _, H _⟩
  · refine WP.rfind (d := 47) (rf_some h1) ?_
    intro _
    walk_at "q"
    rw [List.length_append, List.length_cons] at hp
    have t1 : List.take ((hd.length : Int) + 1).toNat (hd ++ 47 :: tl) = hd ++ [47] := by
      have : ((hd.length : Int) + 1).toNat = hd.length + 1 := by lia
      rw [this]; simp [List.take_append, List.take_of_length_le]
    intro _
    refine WP.sTo (.led .head) (by simp; lia) (by walk_at "om") (by simp; lia) ?_
    intro _
    rw [t1]
    walk_at "q"
    refine ⟨fun hb => ?_, fun hb => ?_⟩
    · walk_at "q"
      refine WP.mul_str (d := 47) (by simp; lia) ?_
      intro _
      walk_at "q"
      refine ⟨fun hb => ?_, fun hb => ?_⟩
      · walk_at "q"
        refine WP.rstrip (d := 47) (rstrip_one h3) (by simp; lia) ?_
        intro _
        walk_at "q"
        exact ⟨[], List.nil_sublist _, H _⟩
      · exact absurd hb (by simp [slashes_ne h2 h3])
    · exact absurd hb (by simp)
end Mine
end
section
open PySem PySem.W PyProof.Rows PySem.Calls PySem.Spec
namespace Mine
theorem ionew_wc {c : Cx} {σ : Sg} {v : Value} {Q : Value → Sg → Prop} (hd : 2 ≤ c.dp) (hu : 20 ≤ c.un) (H : ∀ q dx, Q (.ref q) ⟨σ.vs, (q, inst 700 dx) :: (dx, dct []) :: σ.news⟩) : WC c σ (.call (.ref 193) ⟨[.ref 700, v], []⟩) Q := by
  refine WC.pureCallB ["cls", "args", "kwargs"] [] 1 10 ["cls", "args", "kwargs"] [("BytesIO", .ref 453), ("StringIO", .ref 700), ("object", .type "object")] ⟨⟨_, _, _, by rfl⟩, by rfl, by kernel_rfl⟩ (by walk_at "om") (by walk_at "om") ?_
  refine BW.tupDict [v] (fun a b => [("cls", .ref 700), ("args", a), ("kwargs", b)]) (by kernel_rfl) (by simp) ?_
  intro a b
  refine ⟨[.ref 700, .ref a, .ref b], rfl, rfl, ?_⟩
  intro c' hw' hdp hun D hkeep hn
  show WL c' ⟨[some (.ref 700), some (.ref a), some (.ref b)], []⟩ _ _ _ _ _ _
  walk_at "q"
  refine WP.isnot_cls (q := 700) (r := 453) (by rfl) (by rfl) (by decide) (by intro e; injection e with e; exact absurd e (by decide)) ?_
  walk_at "q"
  refine WP.objNew ?_
  walk_at "q"
  refine WP.ioNew ?_
  intro q dx
  exact ⟨_, .refl _, H q dx⟩
noncomputable abbrev ioAs (u : Tok) (b : T) (tb : Tok) (p : Int) (tp : Tok) : List (Str × Value) := [("_StringIO__newline", .str (S (tx "\n")) u), ("_StringIO__buf", .str (S b) tb), ("_StringIO__pos", .int p tp)]
theorem trans_wc {c : Cx} {σ : Sg} {q dx : Addr} {b a : T} {tb tp : Tok} {p : Int} {t u : Tok} {Q : Value → Sg → Prop} (k1 : Kn c σ q (inst 700 dx)) (k2 : Kn c σ dx (dct (ioAs u b tb p tp))) (hd : 2 ≤ c.dp) (hu : 20 ≤ c.un) (H : Q (.str (S a) t) σ) : WC c σ (.call (.ref 477) ⟨[.ref q, .str (S a) t], []⟩) Q := by
  refine WC.pureCall ["self", "s"] ["newline"] [.ref q, .str (S a) t] 1 10 ["self", "s", "newline"] [some (.ref q), some (.str (S a) t), none] [] ⟨⟨_, _, _, by rfl⟩, by rfl, by kernel_rfl⟩ (.of_eq (by rfl)) (by walk_at "om") (by walk_at "om") ?_
  intro c' hw' hdp hun D hkeep hn
  have i1 := k1.toOld hkeep hn
  have i2 := k2.toOld hkeep hn
  walk_at "q"
  exact ⟨[], List.nil_sublist _, H⟩
theorem check_wc {c : Cx} {σ : Sg} {q dx : Addr} {b : T} {tb tp : Tok} {p : Int} {u : Tok} {Q : Value → Sg → Prop} (k1 : Kn c σ q (inst 700 dx)) (k2 : Kn c σ dx (dct (ioAs u b tb p tp))) (hd : 2 ≤ c.dp) (hu : 20 ≤ c.un) (H : Q .none σ) : WC c σ (.call (.ref 484) ⟨[.ref q], []⟩) Q := by
  refine WC.pureCall ["self"] [] [.ref q] 1 10 ["self"] [some (.ref q)] [] ⟨⟨_, _, _, by rfl⟩, by rfl, by kernel_rfl⟩ (.of_eq (by rfl)) (by walk_at "om") (by walk_at "om") ?_
  intro c' hw' hdp hun D hkeep hn
  have i1 := k1.toOld hkeep hn
  have i2 := k2.toOld hkeep hn
  walk_at "q"
  exact ⟨[], List.nil_sublist _, H⟩
theorem index_wc {c : Cx} {σ : Sg} {n : Int} {t : Tok} {v : Value} {Q : Value → Sg → Prop} (h0 : -100000 ≤ n) (h1 : n ≤ 100000) (hd : 2 ≤ c.dp) (hu : 20 ≤ c.un) (H : ∀ u, Q (.int n u) σ) : WC c σ (.call (.ref 166) ⟨[.int n t, v], []⟩) Q := by
  refine WC.pureCall ["n", "what"] [] [.int n t, v] 1 10 ["n", "what"] [some (.int n t), some v] [("type", .type "type"), ("int", .type "int"), ("bool", .type "bool")] ⟨⟨_, _, _, by rfl⟩, by rfl, by kernel_rfl⟩ (.of_eq (by rfl)) (by walk_at "om") (by walk_at "om") ?_
  intro c' hw' hdp hun D hkeep hn
  walk_at "q"
  refine ⟨fun hb => absurd hb (by simp; lia), fun _ => ?_⟩
  walk_at "q"
  refine ⟨fun hb => absurd hb (by simp; lia), fun _ => ?_⟩
  walk_at "q"
  exact ⟨[], List.nil_sublist _, H _⟩
theorem ioinit_wc {c : Cx} {q dx : Addr} {b : T} {t : Tok} {Q : Value → Sg → Prop} {vs} {l : Led} (hd : 4 ≤ c.dp) (hu : 60 ≤ c.un) (H : ∀ u t' p, Q .none ⟨vs, (q, inst 700 dx) :: (dx, dct (ioAs u b t' 0 p)) :: l⟩) : WC c ⟨vs, (q, inst 700 dx) :: (dx, dct []) :: l⟩ (.call (.ref 470) ⟨[.ref q, .str (S b) t], []⟩) Q := by
  refine WC.mutCallB ["self", "initial_value", "newline"] [] 3 50 ["self", "initial_value", "newline"] [("type", .type "type"), ("str", .type "str")] ⟨⟨_, _, _, by rfl⟩, by rfl, by kernel_rfl⟩ (by walk_at "om") (by walk_at "om") ?_
  refine BW.defaults (T := 463) (by rfl) (by rfl) (by rfl) (by rfl) (by rfl) ?_
  refine ⟨[.ref q, .str (S b) t, .str (S (tx "\n")) _], by rfl, rfl, ?_⟩
  intro c' oL hw' hdp hun D hh
  show WL c' ⟨[some (.ref q), some (.str (S b) t), some (.str (S (tx "\n")) 833)], (c.L, oL) :: (q, inst 700 dx) :: (dx, dct []) :: l⟩ _ _ _ _ _ _
  walk_at "q"
  refine trans_wc (.led (.tail .head)) (.led (.tail (.tail .head))) (by walk_at "om") (by walk_at "om") ?_
  walk_at "q"
  exact ⟨_, .refl _, H _ _ _⟩
theorem take1 {b : T} {p d : Nat} (h : b[p]? = some d) : (b.drop p).take 1 = [d] := by
  obtain ⟨h1, h2⟩ := List.getElem?_eq_some_iff.mp h
  rw [List.drop_eq_getElem_cons h1, h2]; rfl
theorem ioread_wc {c : Cx} {q dx : Addr} {b : T} {u tb tp t : Tok} {p : Nat} {Q : Value → Sg → Prop} {vs} {l : Led} (hb : b.length ≤ 90000) (hp : p ≤ b.length) (hd : 4 ≤ c.dp) (hu : 60 ≤ c.un) (H : ∀ t' tp', Q (.str (S ((b.drop p).take 1)) t') ⟨vs, (q, inst 700 dx) :: (dx, dct (ioAs u b tb (min (p + 1) b.length : Nat) tp')) :: l⟩) : WC c ⟨vs, (q, inst 700 dx) :: (dx, dct (ioAs u b tb p tp)) :: l⟩ (.call (.ref 646) ⟨[.ref q, .int 1 t], []⟩) Q := by
  refine WC.mutCallB ["self", "size"] ["start", "stop"] 3 50 ["self", "size", "start", "stop"] [("_index", .ref 166), ("len", .builtin "len")] ⟨⟨_, _, _, by rfl⟩, by rfl, by kernel_rfl⟩ (by walk_at "om") (by walk_at "om") ?_
  refine BW.defaults (T := 639) (by rfl) (by rfl) (by rfl) (by rfl) (by rfl) ?_
  refine ⟨[.ref q, .int 1 t], by rfl, rfl, ?_⟩
  intro c' oL hw' hdp hun D hh
  show WL c' ⟨[some (.ref q), some (.int 1 t), none, none], (c.L, oL) :: (q, inst 700 dx) :: (dx, dct (ioAs u b tb p tp)) :: l⟩ _ _ _ _ _ _
  walk_at "q"
  refine index_wc (by decide) (by decide) (by walk_at "om") (by walk_at "om") ?_
  intro _
  walk_at "q"
  refine check_wc (.led (.tail .head)) (.led (.tail (.tail .head))) (by walk_at "om") (by walk_at "om") ?_
  walk_at "q"
  refine ⟨fun hb => ?_, fun hb => ?_⟩
  · walk_at "q"
    have hpe : p = b.length := by
      have := of_decide_eq_true hb; lia
    have e1 : (b.drop p).take 1 = [] := by rw [hpe, List.drop_length]; rfl
    have e2 : min (p + 1) b.length = p := by lia
    have := H
    rw [e1, e2] at this
    exact ⟨_, .refl _, this _ _⟩
  · have hlt : p < b.length := by
      have := of_decide_eq_false hb; lia
    have e2 : min (p + 1) b.length = p + 1 := by lia
    have e3 : ((b.drop p).take 1).length = 1 := by rw [List.length_take, List.length_drop]; lia
    rw [e2] at H
    walk_at "q"
    have e4 : ((p + 1 : Nat) : Int) = (p : Int) + 1 := by lia
    have e5 : ((p : Int) + 1 - p).toNat = 1 := by lia
    have e6 : (tx " ").length = 1 := by decide
    have e7 : (p : Int).toNat = p := by lia
    rw [e4] at H
    refine ⟨fun hb => ?_, fun hb => ?_⟩
    · walk_at "q"
      intro _
      refine WP.sFT (.led .head) (by walk_at "om") (by walk_at "om") (by walk_at "om") (by walk_at "om") ?_
      intro _
      rw [e5, e7]
      walk_at "q"
      intro _
      refine WP.sBut (d := 32) (.led .head) (by walk_at "om") ?_
      intro _
      exact ⟨_, .cons _ (.cons _ (.refl _)), H _ _⟩
    · have hl : b.length = p + 1 := by
        have := of_decide_eq_false hb; lia
      rw [hl, e4]
      walk_at "q"
      intro _
      refine WP.sFT (.led .head) (by walk_at "om") (by walk_at "om") (by walk_at "om") (by walk_at "om") ?_
      intro _
      rw [e5, e7]
      walk_at "q"
      intro _
      refine WP.sBut (d := 32) (.led .head) (by walk_at "om") ?_
      intro _
      exact ⟨_, .cons _ (.cons _ (.refl _)), H _ _⟩
end Mine
end
section
open PySem PySem.W PyProof.Rows PySem.Calls PySem.Spec
namespace Mine
theorem ioline_wc {c : Cx} {q dx : Addr} {b e f : T} {u tb tp t : Tok} {p : Nat} {Q : Value → Sg → Prop} {vs} {l : Led} (hb : b.length ≤ 90000) (h : b.drop p = e ++ 10 :: f) (hne : 10 ∉ e) (hd : 2 ≤ c.dp) (hu : 20 ≤ c.un) (H : ∀ y t' tp', Q (.str (S y) t') ⟨vs, (q, inst 700 dx) :: (dx, dct (ioAs u b tb (p + e.length + 1 : Nat) tp')) :: l⟩) : WC c ⟨vs, (q, inst 700 dx) :: (dx, dct (ioAs u b tb p tp)) :: l⟩ (.call (.ref 498) ⟨[.ref q, .int (-1) t], []⟩) Q := by
  have hlen := congrArg List.length h
  simp only [List.length_drop, List.length_append, List.length_cons] at hlen
  refine WC.mutCallB ["self", "limit"] ["start", "stop", "cut", "newline", "i", "j", "end"] 1 10 ["self", "limit", "start", "stop", "cut", "newline", "i", "j", "end"] [("len", .builtin "len")] ⟨⟨_, _, _, by rfl⟩, by rfl, by kernel_rfl⟩ (by walk_at "om") (by walk_at "om") ?_
  refine BW.of_eq (binds := [("self", .ref q), ("limit", .int (-1) t)]) (by rfl) ?_
  refine ⟨[.ref q, .int (-1) t], by rfl, rfl, ?_⟩
  intro c' oL hw' hdp hun D hh
  show WL c' ⟨[some (.ref q), some (.int (-1) t), none, none, none, none, none, none, none], (c.L, oL) :: (q, inst 700 dx) :: (dx, dct (ioAs u b tb p tp)) :: l⟩ _ _ _ _ _ _
  walk_at "q"
  refine ⟨fun hb => absurd hb (by simp; lia), fun _ => ?_⟩
  walk_at "q"
  refine WP.find4 (d := 10) h hne ?_
  intro _
  have el : (tx "\n").length = 1 := by decide
  have e1 : ((p + e.length + 1 : Nat) : Int) = ((p + e.length : Nat) : Int) + ((tx "\n").length : Nat) := by rw [el]; lia
  have e6 : (tx " ").length = 1 := by decide
  rw [e1] at H
  walk_at "q"
  refine ⟨fun _ => ?_, fun hb => absurd hb (by simp; lia)⟩
  walk_at "q"
  intro _
  refine WP.sFT (.led .head) (by walk_at "om") (by walk_at "om") (by walk_at "om") (by walk_at "om") ?_
  intro _
  have e8 : ∀ n, ((b.drop (p : Int).toNat).take n).length ≤ 90000 := fun n => by rw [List.length_take, List.length_drop]; exact Nat.le_trans (Nat.min_le_right _ _) (Nat.le_trans (Nat.sub_le _ _) hb)
  have e9 := e8 ((((p + e.length : Nat) : Int) + ((tx "\n").length : Nat)) - p).toNat
  walk_at "q"
  intro _
  refine WP.sBut (d := 32) (.led .head) (by walk_at "om") ?_
  intro _
  exact ⟨_, .cons _ (.cons _ (.refl _)), H _ _ _⟩
theorem ioreadline_wc {c : Cx} {q dx : Addr} {b e f : T} {u tb tp : Tok} {p : Nat} {Q : Value → Sg → Prop} {vs} {l : Led} (hb : b.length ≤ 90000) (h : b.drop p = e ++ 10 :: f) (hne : 10 ∉ e) (hd : 4 ≤ c.dp) (hu : 60 ≤ c.un) (H : ∀ y t' tp', Q (.str (S y) t') ⟨vs, (q, inst 700 dx) :: (dx, dct (ioAs u b tb (p + e.length + 1 : Nat) tp')) :: l⟩) : WC c ⟨vs, (q, inst 700 dx) :: (dx, dct (ioAs u b tb p tp)) :: l⟩ (.call (.ref 654) ⟨[.ref q], []⟩) Q := by
  refine WC.mutCallB ["self", "size"] [] 3 50 ["self", "size"] [("_index", .ref 166)] ⟨⟨_, _, _, by rfl⟩, by rfl, by kernel_rfl⟩ (by walk_at "om") (by walk_at "om") ?_
  refine BW.defaults (T := 647) (by rfl) (by rfl) (by rfl) (by rfl) (by rfl) ?_
  refine ⟨[.ref q, .int (-1) _], by rfl, rfl, ?_⟩
  intro c' oL hw' hdp hun D hh
  show WL c' ⟨[some (.ref q), some (.int (-1) _)], (c.L, oL) :: (q, inst 700 dx) :: (dx, dct (ioAs u b tb p tp)) :: l⟩ _ _ _ _ _ _
  walk_at "q"
  refine index_wc (by decide) (by decide) (by walk_at "om") (by walk_at "om") ?_
  intro _
  walk_at "q"
  refine check_wc (.led (.tail .head)) (.led (.tail (.tail .head))) (by walk_at "om") (by walk_at "om") ?_
  walk_at "q"
  refine WC.perm (l' := (q, inst 700 dx) :: (dx, dct (ioAs u b tb p tp)) :: (c.L, oL) :: l) ((List.Perm.swap _ _ _).trans ((List.Perm.swap _ _ _).cons _)) ?_
  refine WC.back (ioline_wc hb h hne (by walk_at "om") (by walk_at "om") ?_)
  intro y t' tp'
  refine ⟨(c.L, oL) :: (q, inst 700 dx) :: (dx, dct (ioAs u b tb (p + e.length + 1 : Nat) tp')) :: l, ((List.Perm.swap _ _ _).cons _).trans (List.Perm.swap _ _ _), ?_⟩
  exact ⟨_, .refl _, H _ _ _⟩
end Mine
end
section
open PySem PySem.W PyProof.Rows PySem.Calls PySem.Spec
namespace Mine
theorem prop_wc {c : Cx} {σ : Sg} {q dx : Addr} {as : List (Str × Value)} {v : Value} {Q : Value → Sg → Prop} (k1 : Kn c σ q (inst 835 dx)) (k2 : Kn c σ dx (dct as)) (ha : AtAt "_punctuation_chars" v as) (hv : handedIn v = true) (hd : 2 ≤ c.dp) (hu : 20 ≤ c.un) (H : Q v σ) : WC c σ (.call (.ref 766) ⟨[.ref q], []⟩) Q := by
  refine WC.pureCall ["self"] [] [.ref q] 1 10 ["self"] [some (.ref q)] [] ⟨⟨_, _, _, by rfl⟩, by rfl, by kernel_rfl⟩ (.of_eq (by rfl)) (by walk_at "om") (by walk_at "om") ?_
  intro c' hw' hdp hun D hkeep hn
  have i1 := k1.toOld hkeep hn
  have i2 := k2.toOld hkeep hn
  walk_at "q"
  refine WP.getA (C := 835) (sh_get _) i1.kn i2.kn (by decide) ha hv ?_
  exact ⟨[], List.nil_sublist _, H⟩
theorem WP.pchars {c : Cx} {σ : Sg} {q dx : Addr} {as : List (Str × Value)} {v : Value} {e : Bool} {Q : Value → Sg → Prop} (k1 : Kn c σ q (inst 835 dx)) (k2 : Kn c σ dx (dct as)) (ha : AtAt "_punctuation_chars" v as) (hv : handedIn v = true) (hd : 2 ≤ c.dp) (hu : 21 ≤ c.un) (H : Q v σ) : WP c σ (getAttr (.ref q) "punctuation_chars" e) Q := by
  have k1' : Kn (c.at c.dp 20) σ q (inst 835 dx) := by
    cases k1 with
    | old o e hp => exact .old o e hp
    | led m => exact .led m
  have k2' : Kn (c.at c.dp 20) σ dx (dct as) := by
    cases k2 with
    | old o e hp => exact .old o e hp
    | led m => exact .led m
  exact WP.punct (un := 20) (by walk_at "om") k1 k2 (prop_wc k1' k2' ha hv hd (Nat.le_refl _) ⟨hv, H⟩)
end Mine
end
section
open PySem PySem.W PyProof.Rows PySem.Calls PySem.Spec
namespace Mine
theorem shinit_wc {c : Cx} {q dx : Addr} {b : T} {t t2 : Tok} {Q : Value → Sg → Prop} {vs} {l : Led} (hb : b.length ≤ 90000) (hd : 8 ≤ c.dp) (hu : 100 ≤ c.un) (H : ∀ qi di qp qs qc u tb tp ts a1 a2 a3, Q .none ⟨vs, (qc, dq []) :: (qs, dq []) :: (qp, dq []) :: (qi, inst 700 di) :: (di, dct (ioAs u b tb 0 tp)) :: (q, inst 835 dx) :: (dx, dct (shAs qi qp qs qc wordC ts (.str (S (tx " ")) a1) (.str (S (tx "")) a2) false (.int 1 a3))) :: l⟩) : WC c ⟨vs, (q, inst 835 dx) :: (dx, dct []) :: l⟩ (.call (.ref 759) ⟨[.ref q, .str (S b) t], [("posix", .bool true), ("punctuation_chars", .str (S (tx "{,}")) t2)]⟩) Q := by
  refine WC.mutCallB ["self", "instream", "infile", "posix", "punctuation_chars"] ["t"] 7 90 ["self", "instream", "infile", "posix", "punctuation_chars", "t"] [("isinstance", .builtin "isinstance"), ("str", .type "str"), ("StringIO", .ref 700), ("deque", .type "collections.deque"), ("dict", .type "dict")] ⟨⟨_, _, _, by rfl⟩, by rfl, by kernel_rfl⟩ (by walk_at "om") (by walk_at "om") ?_
  refine BW.defaults (T := 752) (by rfl) (by rfl) (by rfl) (by rfl) (by rfl) ?_
  refine ⟨[.ref q, .str (S b) t, .none, .bool true, .str (S (tx "{,}")) t2], by rfl, rfl, ?_⟩
  intro c' oL hw' hdp hun D hh
  show WL c' ⟨[some (.ref q), some (.str (S b) t), some .none, some (.bool true), some (.str (S (tx "{,}")) t2), none], (c.L, oL) :: (q, inst 835 dx) :: (dx, dct []) :: l⟩ _ _ _ _ _ _
  walk_at "q"
  refine WC.mk700 (dp := 6) (un := 80) (by walk_at "om") (by walk_at "om") ?_
  refine ionew_wc (by show 2 ≤ 6; decide) (by show 20 ≤ 80; decide) ?_
  intro qi di
  refine ⟨qi, di, rfl, .led .head, ?_⟩
  refine ioinit_wc (by show 4 ≤ 6; decide) (by show 60 ≤ 80; decide) ?_
  intro u tb tp
  refine ⟨rfl, ?_⟩
  have w1 : (Mine.tx "abcdfeghijklmnopqrstuvwxyzABCDEFGHIJKLMNOPQRSTUVWXYZ0123456789_").length = 63 := by decide
  have w2 : (Mine.tx "ßàáâãäåæçèéêëìíîïðñòóôõöøùúûüýþÿÀÁÂÃÄÅÆÇÈÉÊËÌÍÎÏÐÑÒÓÔÕÖØÙÚÛÜÝÞ").length = 62 := by decide
  have w3 : (Mine.tx "~-./*?=").length = 7 := by decide
  have w4 : (Mine.tx "{,}").length = 3 := by decide
  walk_at "q"
  refine WP.mkM ?_
  walk_at "q"
  refine WP.fkM ?_
  intro uu
  walk_at "q"
  refine WP.cwFk (fun σ₁ hs => .led (.of_mem (hs _ (.head _)))) ?_
  walk_at "q"
  refine ⟨.led .head, ?_⟩
  refine WP.fkCall (.led .head) (by decide) ?_
  intro DD hDD
  walk_at "q"
  refine WP.maketrans (cs := [123, 44, 125]) (.led .head) (by rfl) (by decide) hDD ?_
  intro EE tab hEE htab
  walk_at "q"
  refine WP.gmS F.slot_str_translate F.type_str_translate ?_
  walk_at "q"
  refine WP.translate (cs := [123, 44, 125]) (.led .head) htab (by decide) (by decide) (by decide) (by decide) hEE ?_
  intro _
  refine WP.perm (List.perm_middle (l₁ := [_, _, _, _, _, _, _, _]) (a := (c.L, oL))) ?_
  simp only [List.cons_append, List.nil_append]
  walk_at "q"
  exact ⟨_, .cons_cons _ (.cons _ (.cons _ (.cons _ (.refl _)))), H _ _ _ _ _ _ _ _ (fun n => [_, _, _, _, _, _, _, _].getD n 0) _ _ _⟩
end Mine
end
section
open PySem PySem.W PyProof.Rows PySem.Calls PySem.Spec
namespace Mine
theorem lexer_wc {c : Cx} {σ : Sg} {b : T} {t : Tok} {Q : Value → Sg → Prop} (hb : b.length ≤ 90000) (hd : 12 ≤ c.dp) (hu : 130 ≤ c.un) (H : ∀ q dx qi di qp qs qc u tb tp ts a1 a2 a3, Q (.ref q) ⟨σ.vs, (qc, dq []) :: (qs, dq []) :: (qp, dq []) :: (qi, inst 700 di) :: (di, dct (ioAs u b tb 0 tp)) :: (q, inst 835 dx) :: (dx, dct (shAs qi qp qs qc wordC ts (.str (S (tx " ")) a1) (.str (S (tx "")) a2) true (.int 1 a3))) :: σ.news⟩) : WC c σ (.call (.ref 879) ⟨[.str (S b) t], []⟩) Q := by
  refine WC.pureCall ["text"] ["lexer"] [.str (S b) t] 11 120 ["text", "lexer"] [some (.str (S b) t), none] [("shlex", .ref 835)] ⟨⟨_, _, _, by rfl⟩, by rfl, by kernel_rfl⟩ (.of_eq (by rfl)) (by walk_at "om") (by walk_at "om") ?_
  intro c' hw' hdp hun D hkeep hn
  walk_at "q"
  refine WC.mk835 (dp := 9) (un := 110) (by walk_at "om") (by walk_at "om") ?_
  intro q dx
  refine shinit_wc hb (by show 8 ≤ 9; decide) (by show 100 ≤ 110; decide) ?_
  intro qi di qp qs qc u tb tp ts a1 a2 a3
  refine ⟨rfl, ?_⟩
  dsimp only
  walk_at "q"
  exact ⟨_, .refl _, H _ _ _ _ _ _ _ _ _ _ _ _ _ _⟩
end Mine
end
section
set_option genInjectivity false
set_option genSizeOf false
set_option genCtorIdx false
set_option bootstrap.genMatcherCode false
open PySem PySem.W PyProof.Rows PySem.Calls PySem.Spec
set_option maxRecDepth 100000
set_option maxHeartbeats 4000000
set_option tactic.hygienic false
namespace Mine
section
variable {c : Cx} {σ : Sg} {Q : Value → Sg → Prop}
theorem WP.mapNew {d : Addr} {xs : List Value} {f : Value} (k : Kn c σ d (lst xs)) (H : ∀ M T L, Q (.ref M) ⟨σ.vs, (M, (· = mapObj T f)) :: (T, (· = tup1 L)) :: (L, lstIt d 0) :: σ.news⟩) : WP c σ (PySem.call (.type "map") [f, .ref d] []) Q := .of0 fun A h tk R Z p => by
  obtain ⟨o, ho, n, rfl⟩ := Z.kn k
  refine call_map (s := ⟨h, c.g, c.d, tk, c.os⟩) ho ?_
  have z1 := Z.push (lit d) (lstIt d 0) ⟨rfl, rfl⟩ rfl
  have z2 := z1.push (tup1 h.objs.size) (· = tup1 h.objs.size) rfl rfl
  have z3 := z2.push (mapObj (h.objs.size + 1) f) (· = mapObj (h.objs.size + 1) f) rfl rfl
  simp only [Heap.size_push] at z3
  exact ⟨_, _, _, rfl, z3, H _ _ _⟩
theorem AllStr.get {xs : List Value} {ts : List T} (h : Strs xs ts) {i : Nat} (hi : i < xs.length) : ∃ a t, xs[i]? = some (.str (S a) t) := by
  have e : xs[i]? = some xs[i] := List.getElem?_eq_getElem hi
  obtain ⟨a, t, _, h2⟩ := h.get e
  exact ⟨a, t, by rw [e, h2]⟩
theorem WP.tupleMap {d M T L : Addr} {xs : List Value} {ts : List Mine.T} {vs} {l : Led} (hs : Strs xs ts) (hn : xs.length ≤ 1000) (hd : 2 ≤ c.dp) (hu : 30 ≤ c.un) (k : Kn c ⟨vs, l⟩ d (lst xs)) (H : ∀ U, Q (.ref U) ⟨vs, (U, tup xs) :: l⟩) :
    WP c ⟨vs, (M, (· = mapObj T (.ref 112))) :: (T, (· = tup1 L)) :: (L, lstIt d 0) :: l⟩ (PySem.call (.type "tuple") [.ref M] []) Q := by
  refine ⟨fun A h tk R Z p => ?_⟩
  obtain ⟨oM, hM, eM⟩ := Z.get (a := M) (p := (· = mapObj T (.ref 112))) .head
  have eM' : oM = _ := eM
  subst eM'
  let J : Nat → Array Value → Shared → Prop := fun i acc s => ∃ h1 tk1, s = ⟨h1, c.g, c.d, tk1, c.os⟩ ∧ 0 < tk1 ∧ i ≤ xs.length ∧ acc.toList = xs.take i ∧ St c ⟨vs, (h.objs.size, lst acc.toList) :: (M, (· = mapObj T (.ref 112))) :: (T, (· = tup1 L)) :: (L, lstIt d i) :: l⟩ h1
  have sz : ∀ {acc : Array Value} {i}, acc.toList = xs.take i → acc.size ≤ i ∧ acc.size ≤ xs.length := fun e => by
    have := congrArg List.length e
    rw [List.length_take] at this
    simp only [Array.length_toList] at this
    lia
  have list_of : ∀ {h1 : Heap} {acc : Array Value} {σ' : Sg}, St c ⟨σ'.vs, (h.objs.size, lst acc.toList) :: σ'.news⟩ h1 → ∃ n, h1.get? h.objs.size = some { cls := .type "list", dict := none, data := .seq acc n, slots := #[] } := fun Z => by
    obtain ⟨o, ho, n, rfl⟩ := Z.get (a := h.objs.size) .head
    exact ⟨n, by simpa using ho⟩
  refine call_tuple_map (s := ⟨h, c.g, c.d, tk, c.os⟩) (n := xs.length) hM rfl J (size_ok (by lia)) ?_ ?_ ?_ ?_
  · intro h' n tk' htk hD hfresh hk
    refine ⟨h', tk', rfl, Nat.lt_of_lt_of_le p htk, Nat.zero_le _, by simp, ?_⟩
    exact Z.add hk hfresh ⟨_, hD, n, by simp⟩
  · rintro i acc _ ⟨h1, tk1, rfl, p1, hi, hacc, Z1⟩
    obtain ⟨n, hn⟩ := list_of (σ' := ⟨_, _⟩) Z1
    exact ⟨(sz hacc).1, n, hn⟩
  · rintro i acc _ hi ⟨h1, tk1, rfl, p1, hi', hacc, Z1⟩
    obtain ⟨a, t, hv⟩ := AllStr.get hs hi
    obtain ⟨o1, ho1, e1⟩ := Z1.get (a := M) (p := (· = mapObj T (.ref 112))) (.tail .head)
    obtain ⟨o2, ho2, e2⟩ := Z1.get (a := T) (p := (· = tup1 L)) (.tail (.tail .head))
    have e1' : o1 = _ := e1
    have e2' : o2 = _ := e2
    subst e1' e2'
    have hit : h1.IsListIter L d i := Z1.get (a := L) (.tail (.tail (.tail .head)))
    have hl : h1.IsList d xs.toArray := Z1.isList (k.mono fun q hq => .tail _ (.tail _ (.tail _ (.tail _ hq))))
    have hne : M ≠ L := by
      have nd := Z1.nd
      simp only [List.map_cons, List.nodup_cons, List.mem_cons, not_or] at nd
      exact nd.2.1.2.1
    refine map_next (s := ⟨h1, c.g, c.d, tk1, c.os⟩) ho1 ho2 hit hl (by simpa using hv) hne fun h2 hit2 hs2 => ?_
    have Z2 : St c ⟨vs, (h.objs.size, lst acc.toList) :: (M, (· = mapObj T (.ref 112))) :: (T, (· = tup1 L)) :: (L, lstIt d (i + 1)) :: l⟩ h2 :=
      St.upd (σ := ⟨vs, _⟩) Z1 (.tail (.tail (.tail .head))) hs2 hit2
    have R' : Room A.in1.in1.in1.in1 (c.at c.dp (c.un - 4)).dp (c.at c.dp (c.un - 4)).un := by
      refine ⟨R.hd, R.dep, ?_⟩
      have := R.un
      refine (?_ : A.units + 1 + 1 + 1 + 1 + (c.un - 4) < cLine)
      lia
    have W := WP.callC (kw := []) (fspath_wc (c := c.at c.dp (c.un - 4)) (σ := ⟨vs, (h.objs.size, lst acc.toList) :: (M, (· = mapObj T (.ref 112))) :: (T, (· = tup1 L)) :: (L, lstIt d (i + 1)) :: l⟩) (a := a) (t := t) (Q := fun v σ' => v = .str (S a) t ∧ σ' = ⟨vs, (h.objs.size, lst acc.toList) :: (M, (· = mapObj T (.ref 112))) :: (T, (· = tup1 L)) :: (L, lstIt d (i + 1)) :: l⟩) hd (by show 20 ≤ c.un - 4; lia) ⟨rfl, rfl⟩)
    refine wpAny_mono (W.run A.in1.in1.in1.in1 h2 tk1 R' Z2.to p1) ?_ fun _ _ e => e.elim
    refine Post.thru ?_
    rintro v h3 tk3 σ3 Z3 p3 ⟨rfl, rfl⟩
    have Z3' := Z3.from
    obtain ⟨n, hn⟩ := list_of (σ' := ⟨_, _⟩) Z3'
    refine ⟨_, rfl, ⟨n, hn⟩, fun h' n' hg hsb => ⟨h', tk3, rfl, p3, hi, ?_, ?_⟩⟩
    · rw [Array.toList_push, hacc, List.take_add_one, hv]; rfl
    · exact St.upd (σ := ⟨vs, _⟩) Z3' .head hsb ⟨_, hg, n', by rw [Array.toArray_toList]⟩
  · rintro acc _ ⟨h1, tk1, rfl, p1, hi', hacc, Z1⟩
    obtain ⟨o1, ho1, e1⟩ := Z1.get (a := M) (p := (· = mapObj T (.ref 112))) (.tail .head)
    obtain ⟨o2, ho2, e2⟩ := Z1.get (a := T) (p := (· = tup1 L)) (.tail (.tail .head))
    have e1' : o1 = _ := e1
    have e2' : o2 = _ := e2
    subst e1' e2'
    have hit : h1.IsListIter L d xs.length := Z1.get (a := L) (.tail (.tail (.tail .head)))
    have hl : h1.IsList d xs.toArray := Z1.isList (k.mono fun q hq => .tail _ (.tail _ (.tail _ (.tail _ hq))))
    have ea : acc = xs.toArray := by
      rw [List.take_length] at hacc
      rw [← hacc]
    refine map_stop (s := ⟨h1, c.g, c.d, tk1, c.os⟩) R.hd ho1 ho2 hit hl (by simp) fun h2 he2 => ?_
    have Z2 : St c ⟨vs, (h.objs.size, lst acc.toList) :: l⟩ h2 := by
      have Zp : St c ⟨vs, (L, lstIt d xs.length) :: (h.objs.size, lst acc.toList) :: (M, (· = mapObj T (.ref 112))) :: (T, (· = tup1 L)) :: l⟩ h1 := Z1.perm (List.perm_middle (l₁ := [_, _, _]))
      exact (Zp.drop he2).sub (.cons_cons _ (.cons _ (.cons _ (.refl _))))
    obtain ⟨n, hn⟩ := list_of (σ' := ⟨vs, l⟩) Z2
    refine ⟨rfl, ⟨n, hn⟩, by have := (sz hacc).2; exact Nat.le_trans this (size_ok (by lia)), ?_⟩
    have Z3 := Z2.push { cls := .type "tuple", data := .seq acc } (tup xs) ⟨0, by rw [ea]⟩ rfl
    exact ⟨_, tk1, ⟨vs, (h2.objs.size, tup xs) :: l⟩, rfl, Z3.sub (.cons_cons _ (.cons _ (.refl _))), p1, H _⟩
end
end Mine
end
section
set_option genInjectivity false
set_option genSizeOf false
set_option genCtorIdx false
set_option bootstrap.genMatcherCode false
open PySem PySem.W PyProof.Rows PySem.Calls PySem.Spec
open AutoSeq1 (wpAny_loadPart')
set_option maxRecDepth 100000
set_option maxHeartbeats 4000000
set_option tactic.hygienic false
namespace Mine

theorem lt_loop (l b : Addr) (n n2 : Nat) {xs ys : List Value} {ts us : List Mine.T} (hx : Strs xs ts) (hy : Strs ys us) (k : Nat) :
    ∀ i : Nat, ts.length - i = k → i ≤ ts.length → i ≤ us.length → Meets (Builtin.«list.__eq__.loop» ⟨[.ref l, .ref b, rawInt i, rawInt 0], []⟩)
      (fun _ R s => s.heap.get? l = some { cls := .type "list", dict := none, data := .seq xs.toArray n, slots := #[] } ∧ s.heap.get? b = some { cls := .type "list", dict := none, data := .seq ys.toArray n2, slots := #[] } ∧
        R (.ok (.ret (.bool (lexLt (ts.drop i) (us.drop i))))) s) := by
  have hxl := hx.len
  have hyl := hy.len
  induction k with
  | zero =>
    intro i hk h1 h2 prog w A R s h
    obtain ⟨hp, g, d, tk, os⟩ := s; obtain ⟨hl, hb, h⟩ := h
    have hin : i = ts.length := Nat.le_antisymm h1 (Nat.le_of_sub_eq_zero hk)
    wp_walk using wpAny_loadPart' hl, wpAny_loadPart' hb
    have hi1 : xs.toArray[((i : Nat) : Int).toNat]? = none := by simp; lia
    have hd : ts.drop i = [] := by simp; lia
    rw [hd] at h
    rw [hi1]
    wp_walk using wpAny_loadPart' hl, wpAny_loadPart' hb
    have e : lexLt [] (us.drop i) = decide (xs.toArray.size < ys.toArray.size) := by
      cases q : us.drop i with
      | nil =>
        have := congrArg List.length q
        simp at this
        simp [lexLt]; lia
      | cons a r =>
        have := congrArg List.length q
        simp at this
        simp [lexLt]; lia
    rw [e] at h
    exact h
  | succ k ih =>
    intro i hk h1 h2 prog w A R s h
    obtain ⟨hp, g, d, tk, os⟩ := s; obtain ⟨hl, hb, h⟩ := h
    wp_walk using wpAny_loadPart' hl, wpAny_loadPart' hb
    have hlt : i < xs.length := by rw [hxl]; exact Nat.lt_of_sub_eq_succ hk
    obtain ⟨a, ta, ha, hva⟩ := hx.get (List.getElem?_eq_getElem hlt)
    have hi1 : xs.toArray[((i : Nat) : Int).toNat]? = some (.str (S a) ta) := by simp [hlt, hva]
    obtain ⟨hi3, hi4⟩ := List.getElem?_eq_some_iff.mp ha
    have hd : ts.drop i = a :: ts.drop (i + 1) := by rw [List.drop_eq_getElem_cons hi3, hi4]
    by_cases hlt2 : i < ys.length
    · obtain ⟨c, tc, hc', hvc⟩ := hy.get (List.getElem?_eq_getElem hlt2)
      have hi2 : ys.toArray[((i : Nat) : Int).toNat]? = some (.str (S c) tc) := by simp [hlt2, hvc]
      obtain ⟨hj3, hj4⟩ := List.getElem?_eq_some_iff.mp hc'
      have hd2 : us.drop i = c :: us.drop (i + 1) := by rw [List.drop_eq_getElem_cons hj3, hj4]
      have hcc : ((i : Int) + 1) = ((i + 1 : Nat) : Int) := by push_cast; rfl
      rw [hd, hd2] at h
      rw [hi1, hi2]
      refine wpAny_bind (eqGives_str (S a) (S c) ta tc prog w _ _ _ _ ?_)
      rw [S_beq]
      by_cases hac : a = c
      · subst hac
        rw [decide_eq_true rfl]
        have e : lexLt (a :: ts.drop (i + 1)) (a :: us.drop (i + 1)) = lexLt (ts.drop (i + 1)) (us.drop (i + 1)) := by simp [lexLt]
        rw [e] at h
        wp_walk
        rw [hcc]
        exact ⟨plainId_quiet MeetsSeq3.plain_eq_loop _, codeAny_builtin MeetsSeq3.entry_eq_loop (by
          rw [Around.under_plainId MeetsSeq3.plain_eq_loop _]
          exact ih (i + 1) (congrArg Nat.pred hk) (Nat.lt_of_sub_eq_succ hk) (hyl ▸ hlt2) prog w A R _ ⟨hl, hb, h⟩)⟩
      · rw [decide_eq_false hac]
        have e : lexLt (a :: ts.drop (i + 1)) (c :: us.drop (i + 1)) = decide (a < c) := by simp [lexLt, hac, Ne.symm hac]
        rw [e] at h
        wp_walk using wpAny_loadPart' hl, wpAny_loadPart' hb
        rw [hi1, hi2]
        refine wpAny_bind (PyProof.Rows.lt_str ?_)
        rw [show decide ((S a).cps.toList < (S c).cps.toList) = decide (a < c) from decide_eq_decide.mpr (by rw [S_cps, S_cps])]
        exact wpAny_pure h
    · have hi2 : ys.toArray[((i : Nat) : Int).toNat]? = none := by simp; lia
      have hd2 : us.drop i = [] := by simp; lia
      rw [hd, hd2] at h
      rw [hi1, hi2]
      wp_walk using wpAny_loadPart' hl, wpAny_loadPart' hb
      have e : lexLt (a :: ts.drop (i + 1)) [] = decide (xs.toArray.size < ys.toArray.size) := by simp [lexLt]; lia
      rw [e] at h
      exact h

theorem gt_str {prog : Program} {w : World} {A : Around} {E : Value → Shared → Prop} {s : Shared} {x y : Str} {t u : Tok} {Q : Value → Shared → Prop} (h : Q (.bool (y.cps.toList < x.cps.toList)) s) : wpAny (model prog w) A (richCompare .Gt (.str x t) (.str y u)) Q E s := by
  exact wpAny_richCompare_same (op := .Gt) (T := "str") (typeIs_str s x t) (typeIs_str s y u) F.slot_str_gt
    (wpAny_call_entry F.slot_str_gt (typeIs_str s x t) F.entry_str_gt (show wpAny _ _ (ret (.bool (y.cps.toList < x.cps.toList))) _ _ s from wpAny_pure ⟨_, rfl, by simp, h⟩) (F.args_str_gt_2 _ _))
theorem gt_loop (l b : Addr) (n n2 : Nat) {xs ys : List Value} {ts us : List Mine.T} (hx : Strs xs ts) (hy : Strs ys us) (k : Nat) :
    ∀ i : Nat, ts.length - i = k → i ≤ ts.length → i ≤ us.length → Meets (Builtin.«list.__eq__.loop» ⟨[.ref l, .ref b, rawInt i, rawInt 4], []⟩)
      (fun _ R s => s.heap.get? l = some { cls := .type "list", dict := none, data := .seq xs.toArray n, slots := #[] } ∧ s.heap.get? b = some { cls := .type "list", dict := none, data := .seq ys.toArray n2, slots := #[] } ∧
        R (.ok (.ret (.bool (lexLt (us.drop i) (ts.drop i))))) s) := by
  have hxl := hx.len
  have hyl := hy.len
  induction k with
  | zero =>
    intro i hk h1 h2 prog w A R s h
    obtain ⟨hp, g, d, tk, os⟩ := s; obtain ⟨hl, hb, h⟩ := h
    have hin : i = ts.length := Nat.le_antisymm h1 (Nat.le_of_sub_eq_zero hk)
    wp_walk using wpAny_loadPart' hl, wpAny_loadPart' hb
    have hi1 : xs.toArray[((i : Nat) : Int).toNat]? = none := by simp; lia
    have hd : ts.drop i = [] := by simp; lia
    rw [hd] at h
    rw [hi1]
    wp_walk using wpAny_loadPart' hl, wpAny_loadPart' hb
    have e : lexLt (us.drop i) [] = decide (xs.toArray.size > ys.toArray.size) := by
      cases q : us.drop i with
      | nil =>
        have := congrArg List.length q
        simp at this
        simp [lexLt]; lia
      | cons a r =>
        have := congrArg List.length q
        simp at this
        simp [lexLt]; lia
    rw [e] at h
    exact h
  | succ k ih =>
    intro i hk h1 h2 prog w A R s h
    obtain ⟨hp, g, d, tk, os⟩ := s; obtain ⟨hl, hb, h⟩ := h
    wp_walk using wpAny_loadPart' hl, wpAny_loadPart' hb
    have hlt : i < xs.length := by rw [hxl]; exact Nat.lt_of_sub_eq_succ hk
    obtain ⟨a, ta, ha, hva⟩ := hx.get (List.getElem?_eq_getElem hlt)
    have hi1 : xs.toArray[((i : Nat) : Int).toNat]? = some (.str (S a) ta) := by simp [hlt, hva]
    obtain ⟨hi3, hi4⟩ := List.getElem?_eq_some_iff.mp ha
    have hd : ts.drop i = a :: ts.drop (i + 1) := by rw [List.drop_eq_getElem_cons hi3, hi4]
    by_cases hlt2 : i < ys.length
    · obtain ⟨c, tc, hc', hvc⟩ := hy.get (List.getElem?_eq_getElem hlt2)
      have hi2 : ys.toArray[((i : Nat) : Int).toNat]? = some (.str (S c) tc) := by simp [hlt2, hvc]
      obtain ⟨hj3, hj4⟩ := List.getElem?_eq_some_iff.mp hc'
      have hd2 : us.drop i = c :: us.drop (i + 1) := by rw [List.drop_eq_getElem_cons hj3, hj4]
      have hcc : ((i : Int) + 1) = ((i + 1 : Nat) : Int) := by push_cast; rfl
      rw [hd, hd2] at h
      rw [hi1, hi2]
      refine wpAny_bind (eqGives_str (S a) (S c) ta tc prog w _ _ _ _ ?_)
      rw [S_beq]
      by_cases hac : a = c
      · subst hac
        rw [decide_eq_true rfl]
        have e : lexLt (a :: us.drop (i + 1)) (a :: ts.drop (i + 1)) = lexLt (us.drop (i + 1)) (ts.drop (i + 1)) := by simp [lexLt]
        rw [e] at h
        wp_walk
        rw [hcc]
        exact ⟨plainId_quiet MeetsSeq3.plain_eq_loop _, codeAny_builtin MeetsSeq3.entry_eq_loop (by
          rw [Around.under_plainId MeetsSeq3.plain_eq_loop _]
          exact ih (i + 1) (congrArg Nat.pred hk) (Nat.lt_of_sub_eq_succ hk) (hyl ▸ hlt2) prog w A R _ ⟨hl, hb, h⟩)⟩
      · rw [decide_eq_false hac]
        have e : lexLt (c :: us.drop (i + 1)) (a :: ts.drop (i + 1)) = decide (c < a) := by simp [lexLt, hac, Ne.symm hac]
        rw [e] at h
        wp_walk using wpAny_loadPart' hl, wpAny_loadPart' hb
        rw [hi1, hi2]
        refine wpAny_bind (gt_str ?_)
        rw [show decide ((S c).cps.toList < (S a).cps.toList) = decide (c < a) from decide_eq_decide.mpr (by rw [S_cps, S_cps])]
        exact wpAny_pure h
    · have hi2 : ys.toArray[((i : Nat) : Int).toNat]? = none := by simp; lia
      have hd2 : us.drop i = [] := by simp; lia
      rw [hd, hd2] at h
      rw [hi1, hi2]
      wp_walk using wpAny_loadPart' hl, wpAny_loadPart' hb
      have e : lexLt [] (a :: ts.drop (i + 1)) = decide (xs.toArray.size > ys.toArray.size) := by simp [lexLt]; lia
      rw [e] at h
      exact h
end Mine
end
section
set_option genInjectivity false
set_option genSizeOf false
set_option genCtorIdx false
set_option bootstrap.genMatcherCode false
open PySem PySem.W PyProof.Rows PySem.Calls PySem.Spec
open AutoSeq1 (wpAny_loadPart')
set_option maxRecDepth 100000
set_option maxHeartbeats 4000000
set_option tactic.hygienic false
namespace Mine
inductive RowsK (c : Cx) (l : Led) : List Value → List (List Mine.T) → Prop
  | nil : RowsK c l [] []
  | cons {e : Addr} {ws xs r rs} : Kn c ⟨[], l⟩ e (lst ws) → Strs ws r → RowsK c l xs rs → RowsK c l (.ref e :: xs) (r :: rs)
theorem RowsK.len {c l xs rs} (h : RowsK c l xs rs) : xs.length = rs.length := by
  induction h with
  | nil => rfl
  | cons _ _ _ ih => simp [ih]
inductive RowV (c : Cx) (l : Led) (v : Value) (r : List Mine.T) : Prop
  | mk (e : Addr) (ws : List Value) (h : v = .ref e) (k : Kn c ⟨[], l⟩ e (lst ws)) (s : Strs ws r)

theorem list_lt (l b : Addr) (n n2 : Nat) {xs ys : List Value} {ts us : List Mine.T} (hx : Strs xs ts) (hy : Strs ys us) :
    Meets (Builtin.«list.__lt__» ⟨[.ref l, .ref b], []⟩)
      (fun _ R s => s.heap.get? l = some { cls := .type "list", dict := none, data := .seq xs.toArray n, slots := #[] } ∧ s.heap.get? b = some { cls := .type "list", dict := none, data := .seq ys.toArray n2, slots := #[] } ∧
        R (.ok (.ret (.bool (lexLt ts us)))) s) := by
  intro prog w A R s h
  obtain ⟨hp, g, d, tk, os⟩ := s; obtain ⟨hl, hb, h⟩ := h
  have f3 := AutoSeq1.sub_list_list
  wp_walk using wpAny_loadPart' hl, wpAny_loadPart' hb
  exact ⟨plainId_quiet MeetsSeq3.plain_eq_loop _, codeAny_builtin MeetsSeq3.entry_eq_loop (by
    rw [Around.under_plainId MeetsSeq3.plain_eq_loop _]
    exact lt_loop l b n n2 hx hy _ 0 rfl (Nat.zero_le _) (Nat.zero_le _) prog w A R _ ⟨hl, hb, by simpa using h⟩)⟩
theorem rich_lt {c : Cx} {A : Around} {σ : Sg} {h : Heap} {tk : Nat} {a b : Addr} {xs ys : List Value} {ts us : List Mine.T} {Q : Value → Shared → Prop} {E : Value → Shared → Prop} (Z : St c σ h) (hu : A.units < cLine) (ka : Kn c σ a (lst xs)) (kb : Kn c σ b (lst ys)) (hx : Strs xs ts) (hy : Strs ys us)
    (H : Q (.bool (lexLt ts us)) ⟨h, c.g, c.d, tk, c.os⟩) : wpAny (model PR c.w) A (richCompare .Lt (.ref a) (.ref b)) Q E ⟨h, c.g, c.d, tk, c.os⟩ := by
  obtain ⟨o1, h1, n1, rfl⟩ := Z.kn ka
  obtain ⟨o2, h2, n2, rfl⟩ := Z.kn kb
  exact richCompare_meets_room (op := .Lt) (s := ⟨h, c.g, c.d, tk, c.os⟩) ⟨_, h1, rfl⟩ ⟨_, h2, rfl⟩ F.slot_list_lt F.entry_list_lt (F.args_list_lt_2 _ _) (list_lt a b n1 n2 hx hy)
    ⟨h1, h2, show Value.bool _ ≠ Value.notImplemented ∧ _ from ⟨(fun x => nomatch x), H⟩⟩ hu
theorem min_turns {c : Cx} {A : Around} {d I B : Addr} {xs : List Value} {vs : List (Option Value)} {l : Led} {R : Result → Shared → Prop} (Rm : Room A c.dp c.un) (hu : 3 ≤ c.un) (kd : Kn c ⟨[], l⟩ d (lst xs)) :
    ∀ (rest : List Value) (rs : List (List Mine.T)) (i : Nat) (vb : Value) (rb : List Mine.T) (h : Heap) (tk : Nat), RowsK c l rest rs → xs.drop i = rest → RowV c l vb rb → 0 < tk → St c ⟨vs, (B, lst [vb, vb]) :: (I, lstIt d i) :: l⟩ h →
    (∀ v h tk, 0 < tk → St c ⟨vs, l⟩ h → RowV c l v (leastR rb rs) → R (.ok (.ret v)) ⟨h, c.g, c.d, tk, c.os⟩) →
    codeAny (model PR c.w) A (.builtin "min.loop" ⟨[.ref I, .none, .ref B], []⟩) R ⟨h, c.g, c.d, tk, c.os⟩ := by
  have hname : (toString "min" ++ toString ".loop" : String) = "min.loop" := by decide
  have hA : A.in1.units < cLine := by have := Rm.un; show A.units + 1 < cLine; lia
  have up : ∀ {a : Addr} {p : Ob} {o1 o2 : Addr × Ob}, Kn c ⟨[], l⟩ a p → Kn c ⟨vs, o1 :: o2 :: l⟩ a p := fun k => k.mono fun q hq => .tail _ (.tail _ hq)
  intro rest
  induction rest with
  | nil =>
    intro rs i vb rb h tk hrows hdrop hvb p0 Z hR
    cases hrows
    have hi : xs.length ≤ i := by
      have := congrArg List.length hdrop
      simp at this; lia
    obtain ⟨oB, hB, nB, rfl⟩ := Z.get (a := B) .head
    have hit : h.IsListIter I d i := Z.get (a := I) (.tail .head)
    have hl : h.IsList d xs.toArray := Z.isList (up kd)
    refine codeAny_builtin F.entry_min_loop ?_
    rw [Around.under_plainId F.plain_min_loop _]
    refine (?_ : wpAny _ A.in1 (seqItems? (.ref B) >>= _) _ _ _)
    refine wpAny_bind (wpAny_seqItems hB rfl ?_)
    refine (?_ : wpAny _ A.in1 (tryCatch (pyNext (.ref I)) _ >>= _) _ _ _)
    refine wpAny_bind (wpAny_tryCatch (wpAny_pyNext_list_end Rm.hd hit hl (by simp; lia) fun h1 he1 => ?_))
    have Zp : St c ⟨vs, (I, lstIt d i) :: (B, lst [vb, vb]) :: l⟩ h := Z.perm (List.Perm.swap _ _ _)
    have Z1 : St c ⟨vs, (B, lst [vb, vb]) :: l⟩ h1 := Zp.drop he1
    obtain ⟨oB1, hB1, nB1, rfl⟩ := Z1.get (a := B) .head
    refine (?_ : wpAny _ A.in1 (updateSeq B (fun _ => #[]) >>= _) _ _ _)
    refine wpAny_bind ?_
    refine wpAny_updateSeq hB1 rfl (wpAny_bind (wpAny_letGo (wpAny_pure ?_)))
    exact hR vb _ tk p0 (Z1.drop (Heap.SameBut.update ..).extBut) hvb
  | cons v rest ih =>
    intro rs i vb rb h tk hrows hdrop hvb p0 Z hR
    cases hrows with
    | @cons e ws _ r rs ke hws hrest =>
    obtain ⟨eb, wb, rfl, kb, hwb⟩ := hvb
    have hv : xs[i]? = some (.ref e) := by
      have := congrArg (fun z => z[0]?) hdrop
      simpa [List.getElem?_drop] using this
    have hdrop' : xs.drop (i + 1) = rest := by
      have := congrArg (List.drop 1) hdrop
      simpa [List.drop_drop, Nat.add_comm] using this
    obtain ⟨oB, hB, nB, rfl⟩ := Z.get (a := B) .head
    have hit : h.IsListIter I d i := Z.get (a := I) (.tail .head)
    have hl : h.IsList d xs.toArray := Z.isList (up kd)
    refine codeAny_builtin F.entry_min_loop ?_
    rw [Around.under_plainId F.plain_min_loop _]
    refine (?_ : wpAny _ A.in1 (seqItems? (.ref B) >>= _) _ _ _)
    refine wpAny_bind (wpAny_seqItems hB rfl ?_)
    refine (?_ : wpAny _ A.in1 (tryCatch (pyNext (.ref I)) _ >>= _) _ _ _)
    refine wpAny_bind (wpAny_tryCatch (wpAny_pyNext_list_item hit hl (by simpa using hv) fun h1 hit1 hs1 => ?_))
    have Z1 : St c ⟨vs, (B, lst [.ref eb, .ref eb]) :: (I, lstIt d (i + 1)) :: l⟩ h1 := St.upd (σ := ⟨vs, _⟩) Z (.tail .head) hs1 hit1
    obtain ⟨oB1, hB1, nB1, rfl⟩ := Z1.get (a := B) .head
    refine (?_ : wpAny _ A.in1 (tryCatch (holding [.ref e, .ref e] (richCompare .Lt (.ref e) (.ref eb) >>= _)) _ >>= _) _ _ _)
    refine wpAny_bind (wpAny_tryCatch (wpAny_holding (wpAny_bind (rich_lt (tk := tk) Z1 hA (up ke) (up kb) hws hwb ?_))))
    refine wpAny_bind (wpAny_holding (wpAny_truthy_bool ?_))
    refine wpAny_bind (wpAny_letGo (wpAny_pure ?_))
    cases hb : lexLt r rb with
    | true =>
      simp only [if_true]
      refine wpAny_bind ?_
      refine wpAny_updateSeq hB1 rfl (wpAny_bind (wpAny_letGo ?_))
      rw [hname]
      have Z2 : St c ⟨vs, (B, lst [.ref e, .ref e]) :: (I, lstIt d (i + 1)) :: l⟩ _ := St.upd (σ := ⟨vs, _⟩) Z1 .head (Heap.SameBut.update h1 B (Obj.mapSeq fun _ => #[.ref e, .ref e])) ⟨_, Heap.get?_update_self _ hB1 rfl, _, rfl⟩
      refine wpAny_pure ⟨plainId_quiet F.plain_min_loop _, ih rs (i + 1) (.ref e) r _ tk hrest hdrop' ⟨e, ws, rfl, ke, hws⟩ p0 Z2 fun v h tk p0 Z hv => hR v h tk p0 Z ?_⟩
      simp only [leastR, hb, if_true]
      exact hv
    | false =>
      simp only [Bool.false_eq_true, if_false]
      refine wpAny_bind (wpAny_letGo ?_)
      rw [hname]
      refine wpAny_pure ⟨plainId_quiet F.plain_min_loop _, ih rs (i + 1) (.ref eb) rb _ tk hrest hdrop' ⟨eb, wb, rfl, kb, hwb⟩ p0 Z1 fun v h tk p0 Z hv => hR v h tk p0 Z ?_⟩
      simp only [leastR, hb, Bool.false_eq_true, if_false]
      exact hv
theorem WP.minRows {c : Cx} {d : Addr} {xs : List Value} {r : List Mine.T} {rs : List (List Mine.T)} {vs} {l : Led} {Q : Value → Sg → Prop} (hu : 6 ≤ c.un) (kd : Kn c ⟨[], l⟩ d (lst xs)) (hrows : RowsK c l xs (r :: rs)) (H : ∀ v, RowV c l v (leastR r rs) → Q v ⟨vs, l⟩) :
    WP c ⟨vs, l⟩ (PySem.call (.builtin "min") [.ref d] []) Q := by
  refine ⟨fun A h tk R Z p0 => ?_⟩
  have hname : (toString "min" ++ toString ".loop" : String) = "min.loop" := by decide
  cases hrows with
  | @cons e ws xs' _ _ ke hws hrest =>
  refine call_function_tree F.kind_min F.plain_min F.entry_min (F.args_min1 _) ?_
  refine (?_ : wpAny _ A.in1 (Builtin.Builtins.bindParams "min" ["key", "default"] 0 ⟨[], []⟩ >>= _) _ _ _)
  refine wpAny_bind (wpAny_of_eq (show Builtin.Builtins.bindParams "min" ["key", "default"] 0 ⟨[], []⟩ = pure [none, none] from rfl) ?_)
  refine wpAny_bind (wpAny_pure ?_)
  have hl : h.IsList d (Value.ref e :: xs').toArray := Z.isList (kd.mono fun q hq => hq)
  refine wpAny_bind (wpAny_pyIter_list hl ?_)
  have Z1 := Z.push { cls := .type "list_iterator", data := .fields #[.ref d, .int 0 0] } (lstIt d 0) ⟨rfl, rfl⟩ rfl
  refine wpAny_bind (wpAny_newObj_type ?_)
  have Z2 := Z1.push { cls := .type "list", data := .seq ([] : List Value).toArray } (lst []) ⟨0, rfl⟩ rfl
  rw [hname]
  refine wpAny_pure ⟨plainId_quiet F.plain_min_loop _, ?_⟩
  dsimp only at Z1 Z2 ⊢
  generalize hI : h.objs.size = I at Z1 Z2 ⊢
  generalize hH : (h.push { cls := .type "list_iterator", data := .fields #[.ref d, .int 0 0] }) = H1 at Z1 Z2 ⊢
  generalize hB' : H1.objs.size = B at Z2 ⊢
  have up : ∀ {a : Addr} {p : Ob} {o1 o2 : Addr × Ob}, Kn c ⟨[], l⟩ a p → Kn c ⟨vs, o1 :: o2 :: l⟩ a p := fun k => k.mono fun q hq => .tail _ (.tail _ hq)
  obtain ⟨oB, hB, nB, rfl⟩ := Z2.get (a := B) .head
  have hit : Heap.IsListIter _ I d 0 := Z2.get (a := I) (.tail .head)
  have hl2 : Heap.IsList _ d (Value.ref e :: xs').toArray := Z2.isList (up kd)
  refine codeAny_builtin F.entry_min_loop ?_
  rw [Around.under_plainId F.plain_min_loop _]
  refine (?_ : wpAny _ _ (seqItems? (.ref B) >>= _) _ _ _)
  refine wpAny_bind (wpAny_seqItems hB rfl ?_)
  refine (?_ : wpAny _ _ (tryCatch (pyNext (.ref I)) _ >>= _) _ _ _)
  refine wpAny_bind (wpAny_tryCatch (wpAny_pyNext_list_item hit hl2 (x := .ref e) (by simp) fun h1 hit1 hs1 => ?_))
  have Z3 : St c ⟨vs, (B, lst []) :: (I, lstIt d 1) :: l⟩ h1 := St.upd (σ := ⟨vs, _⟩) Z2 (.tail .head) hs1 hit1
  obtain ⟨oB1, hB1, nB1, rfl⟩ := Z3.get (a := B) .head
  refine (?_ : wpAny _ _ (updateSeq B (fun _ => #[.ref e, .ref e]) >>= _) _ _ _)
  refine wpAny_bind ?_
  refine wpAny_updateSeq hB1 rfl ?_
  rw [hname]
  have Z4 : St c ⟨vs, (B, lst [.ref e, .ref e]) :: (I, lstIt d 1) :: l⟩ _ := St.upd (σ := ⟨vs, _⟩) Z3 .head (Heap.SameBut.update h1 B (Obj.mapSeq fun _ => #[.ref e, .ref e])) ⟨_, Heap.get?_update_self _ hB1 rfl, _, rfl⟩
  exact wpAny_pure ⟨plainId_quiet F.plain_min_loop _, min_turns R (by lia) kd xs' rs 1 (.ref e) r _ tk hrest rfl ⟨e, ws, rfl, ke, hws⟩ p0 Z4 fun v h' tk' p1 Z5 hv => ⟨h', tk', ⟨vs, l⟩, rfl, Z5, p1, H v hv⟩⟩

theorem list_gt (l b : Addr) (n n2 : Nat) {xs ys : List Value} {ts us : List Mine.T} (hx : Strs xs ts) (hy : Strs ys us) :
    Meets (Builtin.«list.__gt__» ⟨[.ref l, .ref b], []⟩)
      (fun _ R s => s.heap.get? l = some { cls := .type "list", dict := none, data := .seq xs.toArray n, slots := #[] } ∧ s.heap.get? b = some { cls := .type "list", dict := none, data := .seq ys.toArray n2, slots := #[] } ∧
        R (.ok (.ret (.bool (lexLt us ts)))) s) := by
  intro prog w A R s h
  obtain ⟨hp, g, d, tk, os⟩ := s; obtain ⟨hl, hb, h⟩ := h
  have f3 := AutoSeq1.sub_list_list
  wp_walk using wpAny_loadPart' hl, wpAny_loadPart' hb
  exact ⟨plainId_quiet MeetsSeq3.plain_eq_loop _, codeAny_builtin MeetsSeq3.entry_eq_loop (by
    rw [Around.under_plainId MeetsSeq3.plain_eq_loop _]
    exact gt_loop l b n n2 hx hy _ 0 rfl (Nat.zero_le _) (Nat.zero_le _) prog w A R _ ⟨hl, hb, by simpa using h⟩)⟩
theorem rich_gt {c : Cx} {A : Around} {σ : Sg} {h : Heap} {tk : Nat} {a b : Addr} {xs ys : List Value} {ts us : List Mine.T} {Q : Value → Shared → Prop} {E : Value → Shared → Prop} (Z : St c σ h) (hu : A.units < cLine) (ka : Kn c σ a (lst xs)) (kb : Kn c σ b (lst ys)) (hx : Strs xs ts) (hy : Strs ys us)
    (H : Q (.bool (lexLt us ts)) ⟨h, c.g, c.d, tk, c.os⟩) : wpAny (model PR c.w) A (richCompare .Gt (.ref a) (.ref b)) Q E ⟨h, c.g, c.d, tk, c.os⟩ := by
  obtain ⟨o1, h1, n1, rfl⟩ := Z.kn ka
  obtain ⟨o2, h2, n2, rfl⟩ := Z.kn kb
  exact richCompare_meets_room (op := .Gt) (s := ⟨h, c.g, c.d, tk, c.os⟩) ⟨_, h1, rfl⟩ ⟨_, h2, rfl⟩ F.slot_list_gt F.entry_list_gt (F.args_list_gt_2 _ _) (list_gt a b n1 n2 hx hy)
    ⟨h1, h2, show Value.bool _ ≠ Value.notImplemented ∧ _ from ⟨(fun x => nomatch x), H⟩⟩ hu
theorem max_turns {c : Cx} {A : Around} {d I B : Addr} {xs : List Value} {vs : List (Option Value)} {l : Led} {R : Result → Shared → Prop} (Rm : Room A c.dp c.un) (hu : 3 ≤ c.un) (kd : Kn c ⟨[], l⟩ d (lst xs)) :
    ∀ (rest : List Value) (rs : List (List Mine.T)) (i : Nat) (vb : Value) (rb : List Mine.T) (h : Heap) (tk : Nat), RowsK c l rest rs → xs.drop i = rest → RowV c l vb rb → 0 < tk → St c ⟨vs, (B, lst [vb, vb]) :: (I, lstIt d i) :: l⟩ h →
    (∀ v h tk, 0 < tk → St c ⟨vs, l⟩ h → RowV c l v (mostR rb rs) → R (.ok (.ret v)) ⟨h, c.g, c.d, tk, c.os⟩) →
    codeAny (model PR c.w) A (.builtin "max.loop" ⟨[.ref I, .none, .ref B], []⟩) R ⟨h, c.g, c.d, tk, c.os⟩ := by
  have hname : (toString "max" ++ toString ".loop" : String) = "max.loop" := by decide
  have hA : A.in1.units < cLine := by have := Rm.un; show A.units + 1 < cLine; lia
  have up : ∀ {a : Addr} {p : Ob} {o1 o2 : Addr × Ob}, Kn c ⟨[], l⟩ a p → Kn c ⟨vs, o1 :: o2 :: l⟩ a p := fun k => k.mono fun q hq => .tail _ (.tail _ hq)
  intro rest
  induction rest with
  | nil =>
    intro rs i vb rb h tk hrows hdrop hvb p0 Z hR
    cases hrows
    have hi : xs.length ≤ i := by
      have := congrArg List.length hdrop
      simp at this; lia
    obtain ⟨oB, hB, nB, rfl⟩ := Z.get (a := B) .head
    have hit : h.IsListIter I d i := Z.get (a := I) (.tail .head)
    have hl : h.IsList d xs.toArray := Z.isList (up kd)
    refine codeAny_builtin F.entry_max_loop ?_
    rw [Around.under_plainId F.plain_max_loop _]
    refine (?_ : wpAny _ A.in1 (seqItems? (.ref B) >>= _) _ _ _)
    refine wpAny_bind (wpAny_seqItems hB rfl ?_)
    refine (?_ : wpAny _ A.in1 (tryCatch (pyNext (.ref I)) _ >>= _) _ _ _)
    refine wpAny_bind (wpAny_tryCatch (wpAny_pyNext_list_end Rm.hd hit hl (by simp; lia) fun h1 he1 => ?_))
    have Zp : St c ⟨vs, (I, lstIt d i) :: (B, lst [vb, vb]) :: l⟩ h := Z.perm (List.Perm.swap _ _ _)
    have Z1 : St c ⟨vs, (B, lst [vb, vb]) :: l⟩ h1 := Zp.drop he1
    obtain ⟨oB1, hB1, nB1, rfl⟩ := Z1.get (a := B) .head
    refine (?_ : wpAny _ A.in1 (updateSeq B (fun _ => #[]) >>= _) _ _ _)
    refine wpAny_bind ?_
    refine wpAny_updateSeq hB1 rfl (wpAny_bind (wpAny_letGo (wpAny_pure ?_)))
    exact hR vb _ tk p0 (Z1.drop (Heap.SameBut.update ..).extBut) hvb
  | cons v rest ih =>
    intro rs i vb rb h tk hrows hdrop hvb p0 Z hR
    cases hrows with
    | @cons e ws _ r rs ke hws hrest =>
    obtain ⟨eb, wb, rfl, kb, hwb⟩ := hvb
    have hv : xs[i]? = some (.ref e) := by
      have := congrArg (fun z => z[0]?) hdrop
      simpa [List.getElem?_drop] using this
    have hdrop' : xs.drop (i + 1) = rest := by
      have := congrArg (List.drop 1) hdrop
      simpa [List.drop_drop, Nat.add_comm] using this
    obtain ⟨oB, hB, nB, rfl⟩ := Z.get (a := B) .head
    have hit : h.IsListIter I d i := Z.get (a := I) (.tail .head)
    have hl : h.IsList d xs.toArray := Z.isList (up kd)
    refine codeAny_builtin F.entry_max_loop ?_
    rw [Around.under_plainId F.plain_max_loop _]
    refine (?_ : wpAny _ A.in1 (seqItems? (.ref B) >>= _) _ _ _)
    refine wpAny_bind (wpAny_seqItems hB rfl ?_)
    refine (?_ : wpAny _ A.in1 (tryCatch (pyNext (.ref I)) _ >>= _) _ _ _)
    refine wpAny_bind (wpAny_tryCatch (wpAny_pyNext_list_item hit hl (by simpa using hv) fun h1 hit1 hs1 => ?_))
    have Z1 : St c ⟨vs, (B, lst [.ref eb, .ref eb]) :: (I, lstIt d (i + 1)) :: l⟩ h1 := St.upd (σ := ⟨vs, _⟩) Z (.tail .head) hs1 hit1
    obtain ⟨oB1, hB1, nB1, rfl⟩ := Z1.get (a := B) .head
    refine (?_ : wpAny _ A.in1 (tryCatch (holding [.ref e, .ref e] (richCompare .Gt (.ref e) (.ref eb) >>= _)) _ >>= _) _ _ _)
    refine wpAny_bind (wpAny_tryCatch (wpAny_holding (wpAny_bind (rich_gt (tk := tk) Z1 hA (up ke) (up kb) hws hwb ?_))))
    refine wpAny_bind (wpAny_holding (wpAny_truthy_bool ?_))
    refine wpAny_bind (wpAny_letGo (wpAny_pure ?_))
    cases hb : lexLt rb r with
    | true =>
      simp only [if_true]
      refine wpAny_bind ?_
      refine wpAny_updateSeq hB1 rfl (wpAny_bind (wpAny_letGo ?_))
      rw [hname]
      have Z2 : St c ⟨vs, (B, lst [.ref e, .ref e]) :: (I, lstIt d (i + 1)) :: l⟩ _ := St.upd (σ := ⟨vs, _⟩) Z1 .head (Heap.SameBut.update h1 B (Obj.mapSeq fun _ => #[.ref e, .ref e])) ⟨_, Heap.get?_update_self _ hB1 rfl, _, rfl⟩
      refine wpAny_pure ⟨plainId_quiet F.plain_max_loop _, ih rs (i + 1) (.ref e) r _ tk hrest hdrop' ⟨e, ws, rfl, ke, hws⟩ p0 Z2 fun v h tk p0 Z hv => hR v h tk p0 Z ?_⟩
      simp only [mostR, hb, if_true]
      exact hv
    | false =>
      simp only [Bool.false_eq_true, if_false]
      refine wpAny_bind (wpAny_letGo ?_)
      rw [hname]
      refine wpAny_pure ⟨plainId_quiet F.plain_max_loop _, ih rs (i + 1) (.ref eb) rb _ tk hrest hdrop' ⟨eb, wb, rfl, kb, hwb⟩ p0 Z1 fun v h tk p0 Z hv => hR v h tk p0 Z ?_⟩
      simp only [mostR, hb, Bool.false_eq_true, if_false]
      exact hv
theorem WP.maxRows {c : Cx} {d : Addr} {xs : List Value} {r : List Mine.T} {rs : List (List Mine.T)} {vs} {l : Led} {Q : Value → Sg → Prop} (hu : 6 ≤ c.un) (kd : Kn c ⟨[], l⟩ d (lst xs)) (hrows : RowsK c l xs (r :: rs)) (H : ∀ v, RowV c l v (mostR r rs) → Q v ⟨vs, l⟩) :
    WP c ⟨vs, l⟩ (PySem.call (.builtin "max") [.ref d] []) Q := by
  refine ⟨fun A h tk R Z p0 => ?_⟩
  have hname : (toString "max" ++ toString ".loop" : String) = "max.loop" := by decide
  cases hrows with
  | @cons e ws xs' _ _ ke hws hrest =>
  refine call_function_tree F.kind_max F.plain_max F.entry_max (F.args_max1 _) ?_
  refine (?_ : wpAny _ A.in1 (Builtin.Builtins.bindParams "max" ["key", "default"] 0 ⟨[], []⟩ >>= _) _ _ _)
  refine wpAny_bind (wpAny_of_eq (show Builtin.Builtins.bindParams "max" ["key", "default"] 0 ⟨[], []⟩ = pure [none, none] from rfl) ?_)
  refine wpAny_bind (wpAny_pure ?_)
  have hl : h.IsList d (Value.ref e :: xs').toArray := Z.isList (kd.mono fun q hq => hq)
  refine wpAny_bind (wpAny_pyIter_list hl ?_)
  have Z1 := Z.push { cls := .type "list_iterator", data := .fields #[.ref d, .int 0 0] } (lstIt d 0) ⟨rfl, rfl⟩ rfl
  refine wpAny_bind (wpAny_newObj_type ?_)
  have Z2 := Z1.push { cls := .type "list", data := .seq ([] : List Value).toArray } (lst []) ⟨0, rfl⟩ rfl
  rw [hname]
  refine wpAny_pure ⟨plainId_quiet F.plain_max_loop _, ?_⟩
  dsimp only at Z1 Z2 ⊢
  generalize hI : h.objs.size = I at Z1 Z2 ⊢
  generalize hH : (h.push { cls := .type "list_iterator", data := .fields #[.ref d, .int 0 0] }) = H1 at Z1 Z2 ⊢
  generalize hB' : H1.objs.size = B at Z2 ⊢
  have up : ∀ {a : Addr} {p : Ob} {o1 o2 : Addr × Ob}, Kn c ⟨[], l⟩ a p → Kn c ⟨vs, o1 :: o2 :: l⟩ a p := fun k => k.mono fun q hq => .tail _ (.tail _ hq)
  obtain ⟨oB, hB, nB, rfl⟩ := Z2.get (a := B) .head
  have hit : Heap.IsListIter _ I d 0 := Z2.get (a := I) (.tail .head)
  have hl2 : Heap.IsList _ d (Value.ref e :: xs').toArray := Z2.isList (up kd)
  refine codeAny_builtin F.entry_max_loop ?_
  rw [Around.under_plainId F.plain_max_loop _]
  refine (?_ : wpAny _ _ (seqItems? (.ref B) >>= _) _ _ _)
  refine wpAny_bind (wpAny_seqItems hB rfl ?_)
  refine (?_ : wpAny _ _ (tryCatch (pyNext (.ref I)) _ >>= _) _ _ _)
  refine wpAny_bind (wpAny_tryCatch (wpAny_pyNext_list_item hit hl2 (x := .ref e) (by simp) fun h1 hit1 hs1 => ?_))
  have Z3 : St c ⟨vs, (B, lst []) :: (I, lstIt d 1) :: l⟩ h1 := St.upd (σ := ⟨vs, _⟩) Z2 (.tail .head) hs1 hit1
  obtain ⟨oB1, hB1, nB1, rfl⟩ := Z3.get (a := B) .head
  refine (?_ : wpAny _ _ (updateSeq B (fun _ => #[.ref e, .ref e]) >>= _) _ _ _)
  refine wpAny_bind ?_
  refine wpAny_updateSeq hB1 rfl ?_
  rw [hname]
  have Z4 : St c ⟨vs, (B, lst [.ref e, .ref e]) :: (I, lstIt d 1) :: l⟩ _ := St.upd (σ := ⟨vs, _⟩) Z3 .head (Heap.SameBut.update h1 B (Obj.mapSeq fun _ => #[.ref e, .ref e])) ⟨_, Heap.get?_update_self _ hB1 rfl, _, rfl⟩
  exact wpAny_pure ⟨plainId_quiet F.plain_max_loop _, max_turns R (by lia) kd xs' rs 1 (.ref e) r _ tk hrest rfl ⟨e, ws, rfl, ke, hws⟩ p0 Z4 fun v h' tk' p1 Z5 hv => ⟨h', tk', ⟨vs, l⟩, rfl, Z5, p1, H v hv⟩⟩
end Mine
end
section
set_option genInjectivity false
set_option genSizeOf false
set_option genCtorIdx false
set_option bootstrap.genMatcherCode false
open PySem PySem.W PyProof.Rows PySem.Calls PySem.Spec
set_option maxRecDepth 100000
set_option maxHeartbeats 4000000
set_option tactic.hygienic false
namespace Mine
noncomputable def enOb (it : Addr) (i : Nat) (o : Obj) : Prop := ∃ old, o = { cls := .type "enumerate", dict := none, data := .fields #[.none, .bool false, .ref it, rawInt i, .none, old], slots := #[] }
section
variable {c : Cx} {σ : Sg} {Q : Value → Sg → Prop} {env : Env} {qn qb qc : Sg → Prop} {qr : Value → Sg → Prop}
theorem WP.enumNew {d : Addr} {xs : List Value} (k : Kn c σ d (lst xs)) (H : ∀ e it, Q (.ref e) ⟨σ.vs, (e, enOb it 0) :: (it, lstIt d 0) :: σ.news⟩) : WP c σ (PySem.call (.type "enumerate") [.ref d] []) Q := .of0 fun A h tk R Z p => by
  refine call_enumerate_list (s := ⟨h, c.g, c.d, tk, c.os⟩) (Z.isList k) fun h' he hit hsz hk => ?_
  have none_of : ∀ b, h.objs.size ≤ b → h.get? b = none := fun b hb => by
    cases q : h.get? b with
    | none => rfl
    | some o => exact absurd (Heap.lt_size q) (Nat.not_lt.mpr hb)
  have Z1 : St c ⟨σ.vs, (h.objs.size, lstIt d 0) :: σ.news⟩ h' := Z.add hk (none_of _ (Nat.le_refl _)) hit
  obtain ⟨oL, _, _, hL, _⟩ := Z.fr.ns
  have Z2 : St c ⟨σ.vs, (h.objs.size + 1, enOb h.objs.size 0) :: (h.objs.size, lstIt d 0) :: σ.news⟩ h' := by
    refine ⟨Z1.fr, fun q hq => ?_, List.nodup_cons.mpr ⟨fun hm => ?_, Z1.nd⟩⟩
    · rcases List.mem_cons.mp hq with rfl | hq
      · refine ⟨⟨_, he, .none, rfl⟩, fun e => ?_, ?_⟩
        · have := Heap.lt_size hL
          dsimp only at e
          rw [← e] at this
          exact absurd (Nat.lt_of_succ_lt this) (Nat.lt_irrefl _)
        · cases q : c.h₀.get? (h.objs.size + 1) with
          | none => rfl
          | some o => exact absurd (Nat.lt_of_succ_lt (Heap.lt_size (Z.keep _ _ q))) (Nat.lt_irrefl _)
      · exact Z1.nw q hq
    · obtain ⟨q, hq, e⟩ := List.mem_map.mp hm
      rcases List.mem_cons.mp hq with rfl | hq
      · exact absurd e (Nat.ne_of_lt (Nat.lt_succ_self _))
      · obtain ⟨⟨o', h1, _⟩, _⟩ := Z.nw q hq
        have := Heap.lt_size h1
        rw [e] at this
        exact Nat.lt_irrefl _ (Nat.lt_of_succ_lt this)
  exact ⟨h', tk, _, rfl, Z2, H _ _⟩
theorem St.re {h h' : Heap} {e it : Addr} {p p' q q' : Ob} {vs} {l : Led} (Z : St c ⟨vs, (e, p) :: (it, q) :: l⟩ h) (hk : ∀ b o, b ≠ e → b ≠ it → h.get? b = some o → h'.get? b = some o) (he : ∃ o, h'.get? e = some o ∧ p' o) (hi : ∃ o, h'.get? it = some o ∧ q' o) : St c ⟨vs, (e, p') :: (it, q') :: l⟩ h' := by
  have ze := Z.nw (e, p) (.head _)
  have zi := Z.nw (it, q) (.tail _ (.head _))
  obtain ⟨oL, es, ep, hL, r⟩ := Z.fr.ns
  have nd := Z.nd
  simp only [List.map_cons, List.nodup_cons, List.mem_cons, not_or] at nd
  refine ⟨⟨⟨oL, es, ep, hk _ _ (Ne.symm ze.2.1) (Ne.symm zi.2.1) hL, r⟩, fun b o e' => hk _ _ (fun x => ?_) (fun x => ?_) (Z.fr.keep _ _ e'), Z.fr.above⟩, fun x hx => ?_, Z.nd⟩
  · rw [x] at e'; have := ze.2.2; dsimp only at this; rw [this] at e'; cases e'
  · rw [x] at e'; have := zi.2.2; dsimp only at this; rw [this] at e'; cases e'
  · rcases List.mem_cons.mp hx with rfl | hx
    · exact ⟨he, ze.2⟩
    · rcases List.mem_cons.mp hx with rfl | hx
      · exact ⟨hi, zi.2⟩
      · obtain ⟨⟨o', y1, y2⟩, y3⟩ := Z.nw x (.tail _ (.tail _ hx))
        refine ⟨⟨o', hk _ _ (fun e' => ?_) (fun e' => ?_) y1, y2⟩, y3⟩
        · exact nd.1.2 (List.mem_map.mpr ⟨x, hx, e'⟩)
        · exact nd.2.1 (List.mem_map.mpr ⟨x, hx, e'⟩)
theorem St.addAt {h h' : Heap} {p : Ob} {vs} {l l0 : Led} (Z0 : St c ⟨vs, l0⟩ h) (Z : St c ⟨vs, l⟩ h') (hkeys : l.map (·.1) = l0.map (·.1)) (ho : ∃ o, h'.get? h.objs.size = some o ∧ p o) : St c ⟨vs, (h.objs.size, p) :: l⟩ h' := by
  obtain ⟨oL, _, _, hL, _⟩ := Z0.fr.ns
  refine ⟨Z.fr, fun q hq => ?_, List.nodup_cons.mpr ⟨fun hm => ?_, Z.nd⟩⟩
  · rcases List.mem_cons.mp hq with rfl | hq
    · refine ⟨ho, Nat.ne_of_gt (Heap.lt_size hL), ?_⟩
      cases q : c.h₀.get? h.objs.size with
      | none => rfl
      | some o => exact absurd (Heap.lt_size (Z0.keep _ _ q)) (Nat.lt_irrefl _)
    · exact Z.nw q hq
  · have hm' : h.objs.size ∈ l0.map (·.1) := by rw [← hkeys]; exact hm
    obtain ⟨q, hq, e⟩ := List.mem_map.mp hm'
    obtain ⟨⟨o', h1, _⟩, _⟩ := Z0.nw q hq
    exact absurd (Heap.lt_size h1) (by rw [e]; exact Nat.lt_irrefl _)
theorem St.enumNext {σ : Sg} {e it d : Addr} {xs : List Value} {i : Nat} {A : Around} {h : Heap} {tk : Nat} {Q : Option Value → Shared → Prop} {E : Value → Shared → Prop} (Z : St c ⟨σ.vs, (e, enOb it i) :: (it, lstIt d i) :: σ.news⟩ h) (hl : h.IsList d xs.toArray) (hlt : i < xs.length) (p0 : 0 < tk)
    (k : ∀ h5 tk4 T tq, 0 < tk4 → St c ⟨σ.vs, (T, tup [.int (i : Nat) tq, xs[i]]) :: (e, fun o => o = { cls := .type "enumerate", dict := none, data := .fields #[rawInt T, .bool false, .ref it, rawInt ((i : Int) + 1), .none, xs[i]], slots := #[] }) :: (it, lstIt d (i + 1)) :: σ.news⟩ h5 → IsEnumOut h5 e it ((i : Int) + 1) xs[i] T → Q (some (.ref T)) ⟨h5, c.g, c.d, tk4, c.os⟩) :
    wpAny (model PR c.w) A (pyNext (.ref e)) Q E ⟨h, c.g, c.d, tk, c.os⟩ := by
  obtain ⟨oe, hoe, old, rfl⟩ := Z.get (a := e) (p := enOb it i) .head
  have hit : h.IsListIter it d i := Z.get (a := it) (.tail .head)
  have nd := Z.nd
  simp only [List.map_cons, List.nodup_cons, List.mem_cons, not_or] at nd
  refine wpAny_mono (wpAny_toks_of (s := ⟨h, c.g, c.d, tk, c.os⟩) (n := 1) (Q := fun r s' => ∃ h4 tk4 T tq, r = some (.ref T) ∧ s' = ⟨h4, c.g, c.d, tk4, c.os⟩ ∧ IsEnumOut h4 e it ((i : Int) + 1) xs[i] T ∧ St c ⟨σ.vs, (T, tup [.int (i : Nat) tq, xs[i]]) :: (e, fun o => o = { cls := .type "enumerate", dict := none, data := .fields #[rawInt T, .bool false, .ref it, rawInt ((i : Int) + 1), .none, xs[i]], slots := #[] }) :: (it, lstIt d (i + 1)) :: σ.news⟩ h4) (E := NoE) p0 (wpAny_pyNext_enum_item hoe hit hl (x := xs[i]) (by simp [hlt]) nd.1.1 fun h4 heo hit4 hT hz hk => ?_)) ?_ (fun _ _ e => e.2.elim)
  · refine ⟨h4, _, _, tk, rfl, rfl, heo, ?_⟩
    have Z4 : St c ⟨σ.vs, (e, fun o => o = { cls := .type "enumerate", dict := none, data := .fields #[rawInt h.objs.size, .bool false, .ref it, rawInt ((i : Int) + 1), .none, xs[i]], slots := #[] }) :: (it, lstIt d (i + 1)) :: σ.news⟩ h4 := Z.re hk ⟨_, heo, rfl⟩ hit4
    exact Z.addAt Z4 rfl ⟨_, hT, 0, rfl⟩
  · rintro r _ ⟨p4, h4, tk4, T, tq, rfl, rfl, heo, Z4⟩
    exact k h4 tk4 T tq p4 Z4 heo
inductive EnumK (c : Cx) (e it d : Addr) (xs : List Value) (Inv : Nat → Sg → Prop) : Nat → Shared → Prop
  | mk (h : Heap) (tk : Nat) (σ : Sg) (i : Nat) (p0 : 0 < tk) (hi : i ≤ xs.length) (Z : St c ⟨σ.vs, (e, enOb it i) :: (it, lstIt d i) :: σ.news⟩ h) (hI : Inv i σ) : EnumK c e it d xs Inv (xs.length - i) ⟨h, c.g, c.d, tk, c.os⟩
inductive End2 (e it : Addr) (p q : Ob) (K : Sg → Prop) (σ : Sg) : Prop
  | mk (l : Led) (h : List.Sublist ((e, p) :: (it, q) :: l) σ.news) (k : K ⟨σ.vs, l⟩)
theorem WS.forEnum {xi xv : Str} {pi pv pt pos : Pos} {k : Nat} {iter : PySem.Expr} {body : List Stmt} (H : WP c σ (eval iter env) (fun v σ₁ => Ex6 fun (e it d : Addr) (xs : List Value) (Inv : Nat → Sg → Prop) (l : Led) => A6 (v = .ref e) (σ₁.news = (e, enOb it 0) :: (it, lstIt d 0) :: l) (Inv 0 ⟨σ₁.vs, l⟩) ((∀ i σ', Inv i σ' → Kn c σ' d (lst xs))) ((∀ i v tk p1 p2 σ', xs[i]? = some v → Inv i σ' → WP c ⟨σ'.vs, (e, p1) :: (it, p2) :: σ'.news⟩ (storeName env xi (.int (i : Nat) tk)) (fun _ σ2 => WP c σ2 (storeName env xv v) (fun _ σ3 => WLN c σ3 env body (End2 e it p1 p2 (Inv (i + 1))) qr qn (End2 e it p1 p2 (Inv (i + 1))))))) ((∀ σ', Inv xs.length σ' → qn σ')))) (hfs : ∀ x, foldedSetIterable iter env x = Pure.pure x := by intro _; rfl) :
    WS c σ env (.For (.Tuple [.Name xi pi, .Name xv pv] k pt) iter body [] pos) qn qr qb qc := by
  refine ⟨fun A h tk R S p₀ => ?_⟩
  refine wpAny_For (H.runK R S p₀ ?_) hfs
  rintro v h1 tk1 σ1 Z1 p1 ⟨e, it, d, xs, Inv, l, rfl, hnews, hI0, hkn, hturn, hdone⟩
  obtain ⟨vs1, news1⟩ := σ1
  dsimp only at hnews hI0
  subst hnews
  obtain ⟨oe, hoe, old, rfl⟩ := Z1.get (a := e) (p := enOb it 0) .head
  refine wpAny_pyIter_enum (s := ⟨h1, c.g, c.d, tk1, c.os⟩) (it := it) (i := 0) (old := old) hoe ?_
  refine codeAny_mono (R := fun r s' => match r with | .ok f => Post c (FQ qn qr (fun _ => False) (fun _ => False)) f s' | .error e => cameBackBy (model PR c.w) A env NoE e s') ?_ ?_
  · refine codeAny_forLoop_any (EnumK c e it d xs Inv) ?_ xs.length (.mk h1 tk1 ⟨vs1, l⟩ 0 p1 (Nat.zero_le _) Z1 hI0)
    intro k s K
    induction K with | mk h tk σ i p0 hi Z hI => ?_
    have hl : h.IsList d xs.toArray := Z.isList ((hkn i σ hI).mono fun q hq => .tail _ (.tail _ hq))
    by_cases hlt : i < xs.length
    · have hv : xs[i]? = some xs[i] := List.getElem?_eq_getElem hlt
      refine St.enumNext Z hl hlt p0 fun h4 tk4 T tq p4 Z4 heo => ?_
      refine wpAny_letOwnedTupleGo_enum (s := ⟨h4, c.g, c.d, tk4, c.os⟩) heo fun h5 he5 hs5 => ?_
      have Z5 : St c ⟨σ.vs, (T, tup [.int (i : Nat) tq, xs[i]]) :: (e, enOb it (i + 1)) :: (it, lstIt d (i + 1)) :: σ.news⟩ h5 := Z4.upd (LedSet.tail LedSet.head) hs5 ⟨_, he5, xs[i], rfl⟩
      have hT5 : IsTup h5 T #[.int (i : Nat) tq, xs[i]] := Z5.isTup (.led .head)
      refine wpAny_mono (Q := Post c (fun _ σ3 => WLN c σ3 env body (End2 e it (enOb it (i + 1)) (lstIt d (i + 1)) (Inv (i + 1))) qr qn (End2 e it (enOb it (i + 1)) (lstIt d (i + 1)) (Inv (i + 1))))) (E := NoE) (assign_Tuple_tuple (s := ⟨h5, c.g, c.d, tk4, c.os⟩) R.hd hT5 rfl rfl fun h6 he6 => ?_) ?_ (fun _ _ e => e.elim)
      · have Z6 : St c ⟨σ.vs, (e, enOb it (i + 1)) :: (it, lstIt d (i + 1)) :: σ.news⟩ h6 := (Z5.ext fun b o q => he6 b o (Nat.ne_of_lt (Heap.lt_size q)) q).sub (.cons _ (.refl _))
        have Ht := hturn i xs[i] tq (enOb it (i + 1)) (lstIt d (i + 1)) σ hv hI
        have H' : WP c ⟨σ.vs, (e, enOb it (i + 1)) :: (it, lstIt d (i + 1)) :: σ.news⟩ (assignInOrder ((assignEach [.Name xi pi, .Name xv pv] env).map (·.2)) [.int (i : Nat) tq, xs[i]]) (fun _ σ3 => WLN c σ3 env body (End2 e it (enOb it (i + 1)) (lstIt d (i + 1)) (Inv (i + 1))) qr qn (End2 e it (enOb it (i + 1)) (lstIt d (i + 1)) (Inv (i + 1)))) :=
          .inOrder (.asg (e := .Name xi pi) (Ht.mono fun _ _ H => .inOrder (.asg (e := .Name xi pi) (H.mono fun _ _ H => .inOrder0 H))))
        exact H'.run A h6 tk4 R Z6 p4
      · refine Post.thru ?_
        rintro _ h7 tk7 σ7 Z7 p7 H7
        refine H7.wl.runK R Z7 p7 ?_
        rintro f h8 tk8 σ8 Z8 p8 H8
        cases f with
        | next =>
          obtain ⟨l8, hl8, hK⟩ := H8
          exact ⟨xs.length - (i + 1), Nat.sub_lt_sub_left hlt (Nat.lt_succ_self i), .mk h8 tk8 ⟨σ8.vs, l8⟩ (i + 1) p8 hlt (Z8.sub hl8) hK⟩
        | cont =>
          obtain ⟨l8, hl8, hK⟩ := H8
          exact ⟨xs.length - (i + 1), Nat.sub_lt_sub_left hlt (Nat.lt_succ_self i), .mk h8 tk8 ⟨σ8.vs, l8⟩ (i + 1) p8 hlt (Z8.sub hl8) hK⟩
        | brk => exact ⟨h8, tk8, σ8, rfl, Z8, p8, H8⟩
        | ret v => exact ⟨h8, tk8, σ8, rfl, Z8, p8, H8⟩
    · have hin : i = xs.length := Nat.le_antisymm hi (Nat.not_lt.mp hlt)
      subst hin
      obtain ⟨oe, hoe, old, rfl⟩ := Z.get (a := e) (p := enOb it _) .head
      have hit : h.IsListIter it d xs.length := Z.get (a := it) (.tail .head)
      refine wpAny_pyNext_enum_end (s := ⟨h, c.g, c.d, tk, c.os⟩) R.hd hoe hit hl (by simp) fun h4 he4 => wpAny_execs_nil ?_
      have Zp : St c ⟨σ.vs, (it, lstIt d xs.length) :: (e, enOb it xs.length) :: σ.news⟩ h := Z.perm (List.Perm.swap _ _ _)
      exact ⟨h4, tk, ⟨σ.vs, σ.news⟩, rfl, (Zp.drop he4).sub (.cons _ (.refl _)), p0, hdone _ hI⟩
  · intro r s' hr
    cases r with
    | error e => exact hr
    | ok f =>
      refine Post.mono (fun f' σ' q => ?_) hr
      cases f' with
      | next => exact q
      | ret v => exact q
      | brk => exact q.elim
      | cont => exact q.elim
end
end Mine
end
section
set_option genInjectivity false
set_option genSizeOf false
set_option genCtorIdx false
set_option bootstrap.genMatcherCode false
open PySem PySem.W PyProof.Rows PySem.Calls PySem.Spec
set_option maxRecDepth 100000
set_option maxHeartbeats 4000000
set_option tactic.hygienic false
namespace Mine
noncomputable def fnChkC (w : World) (fd : FuncData) (p n1 n2 : Str) (ns : List Str) (gs : List (Str × Value)) : Bool :=
  (fd.scope.kind == .function && !fd.scope.isCoroutine && !fd.scope.isGenerator && fd.closure.isEmpty) &&
  (ns.all (fun x => fd.scope.names.lookup x == some .local && !(x == ("__debug__" : Str))) && decide ns.Nodup && ns.head? == some p) &&
  (gs.all (fun p => fd.scope.names.lookup p.1 == some .globalImplicit && !(p.1 == ("__debug__" : Str)) && globChk w p)) &&
  (fd.globals == mainGlobals && fd.builtins == builtinsNs && codeIn (KK w) fd.code fd.qualname) &&
  (fd.scope.names.lookup n1 == some .cell && fd.scope.names.lookup n2 == some .cell && !(n1 == n2) && !(n1 == ("__debug__" : Str)) && !(n2 == ("__debug__" : Str)))
theorem WC.cellCall {c : Cx} {σ : Sg} {f : Addr} {fd : FuncData} {body : List Stmt} {Q : Value → Sg → Prop} (p n1 n2 : Str) (v : Value) (rest : List Str) (dp un : Nat) (nss : List Str) (gs : List (Str × Value)) (hh : ∃ oc od osl, (KK c.w).lookup f = some ⟨oc, od, .func fd, osl⟩) (hbody : fd.body = .stmts body) (hchk : fnChkC c.w fd p n1 n2 nss gs = true)
    (hcells : ∀ L, cellsFrom L fd.scope.names [] = [(n2, L + 1), (n1, L)]) (hb : bindArgs fd ⟨[v], []⟩ = Pure.pure [(p, v)]) (hd : dp + 1 ≤ c.dp) (hu : un + 3 ≤ c.un)
    (H : ∀ (c' : Cx) (a1 a2 : Addr), c'.w = c.w → c'.dp = dp → c'.un = un → EnvOk c' nss gs → CellAt c'.env n1 a1 → CellAt c'.env n2 a2 → (∀ b o, c.h₀.get? b = some o → c'.h₀.get? b = some o) → (∀ q ∈ σ.news, ∃ o, c'.h₀.get? q.1 = some o ∧ q.2 o) →
      WL c' ⟨some v :: rest.map (fun _ => none), [(a1, cel none), (a2, cel none)]⟩ c'.env body (Kp σ Q .none) (Kp σ Q) (Kp σ Q .none) (Kp σ Q .none))
    (hns : nss = p :: rest := by rfl) : WC c σ (.call (.ref f) ⟨[v], []⟩) Q := by
  subst hns
  unfold fnChkC at hchk
  simp only [Bool.and_eq_true, List.all_eq_true, Bool.not_eq_true', decide_eq_true_eq] at hchk
  obtain ⟨⟨⟨⟨⟨⟨⟨k1, k2⟩, k3⟩, k4⟩, ⟨l1, l2⟩, l3⟩, g1⟩, ⟨e1, e2⟩, e3⟩, ⟨⟨⟨m1, m2⟩, m3⟩, m4⟩, m5⟩ := hchk
  have k1 := beq_iff_eq.mp k1
  have e1 := beq_iff_eq.mp e1
  have e2 := beq_iff_eq.mp e2
  have m1 := beq_iff_eq.mp m1
  have m2 := beq_iff_eq.mp m2
  have l1' : ∀ x ∈ p :: rest, fd.scope.names.lookup x = some .local ∧ (x == ("__debug__" : Str)) = false := fun x hx => ⟨beq_iff_eq.mp (l1 x hx).1, (l1 x hx).2⟩
  have g1' : ∀ q ∈ gs, fd.scope.names.lookup q.1 = some .globalImplicit ∧ (q.1 == ("__debug__" : Str)) = false ∧ globChk c.w q = true := fun q hq => ⟨beq_iff_eq.mp (g1 q hq).1.1, (g1 q hq).1.2, (g1 q hq).2⟩
  have hclo : fd.closure = [] := by simpa using k4
  obtain ⟨oc, od, osl, ho⟩ := hh
  refine ⟨fun A h tk R S p₀ => ?_⟩
  have B := S.base
  refine codeAny_call_function (s := ⟨h, c.g, c.d, tk, c.os⟩) (by have := R.dep; lia) (B.k _ _ ho) rfl k2 k3 hbody (codeRec_of B.k e3) ?_
  rw [hb, hclo]
  refine wpAny_pure ?_
  refine wpAny_mono (wpAny_toks_of (n := 1) (s := ⟨h, c.g, c.d, tk, c.os⟩) p₀ (wpAny_newFunctionEnv_cells (Q := fun env s' => env = newEnv fd.scope h.objs.size fd.globals (cellsFrom (h.objs.size + 1) fd.scope.names []) (fd.qualname ++ ".<locals>.") (some f) fd.code none fd.builtins ∧ InCallC ⟨h, c.g, c.d, tk, c.os⟩ env.locals (bindL env.kindOf [(p, v)] fun _ => none) env.cells (bindC env.kindOf [(p, v)] fun _ => none) s') (E := NoE) k1
    (fun x hx => .inl (by rw [List.mem_singleton.mp hx]; exact (l1' p (.head _)).1)) (fun env he s' x => ⟨he, x⟩))) ?_ (fun _ _ e => e.2.elim)
  rintro env s' ⟨p1, rfl, X⟩
  obtain ⟨⟨⟨h₁, tk₁, rfl⟩, hns, hkeep, hfresh⟩, hcell, hap, hab⟩ := X
  dsimp only at hns hkeep hfresh hcell hab p1
  have hkp : (newEnv fd.scope h.objs.size fd.globals (cellsFrom (h.objs.size + 1) fd.scope.names []) (fd.qualname ++ ".<locals>.") (some f) fd.code none fd.builtins).kindOf p = some .local := (l1' p (.head _)).1
  refine ⟨B.nl.keeps hkeep, codeAny_func ?_⟩
  let c' : Cx := { w := c.w, h₀ := h, base := B, env := newEnv fd.scope h.objs.size fd.globals (cellsFrom (h.objs.size + 1) fd.scope.names []) (fd.qualname ++ ".<locals>.") (some f) fd.code none fd.builtins, L := h.objs.size, ns := p :: rest, dp := dp, un := un, g := c.g, d := c.d, os := c.os }
  have D : EnvOk c' (p :: rest) gs := ⟨rfl, l2, k1, rfl, l1', g1', e1, e2⟩
  have hcl : c'.env.cells = [(n2, h.objs.size + 1 + 1), (n1, h.objs.size + 1)] := hcells _
  have C1 : CellAt c'.env n1 (h.objs.size + 1) := ⟨k1, m1, by rw [hcl]; simp only [List.lookup_cons, m3, List.lookup_nil]; simp, m4⟩
  have C2 : CellAt c'.env n2 (h.objs.size + 1 + 1) := ⟨k1, m2, by rw [hcl]; simp only [List.lookup_cons]; simp, m5⟩
  have hm : (bindL c'.env.kindOf [(p, v)] fun _ => none) = slotGet (p :: rest) (some v :: rest.map fun _ => none) := by
    funext y
    have hk : c'.env.kindOf p = some .local := hkp
    simp only [bindL, hk, if_true, slotGet, slotGet_nones]
  have hcm : (bindC c'.env.kindOf [(p, v)] fun _ => none) = fun _ => none := by
    have hk : c'.env.kindOf p = some .local := hkp
    simp only [bindC, hk, if_true]
  have S' : St c' ⟨some v :: rest.map (fun _ => none), [(h.objs.size + 1, cel none), (h.objs.size + 1 + 1, cel none)]⟩ h₁ := by
    have hc1 := hcell n1 _ C1.l
    have hc2 := hcell n2 _ C2.l
    have none_of : ∀ b, h.objs.size ≤ b → h.get? b = none := fun b hb => by
      cases q : h.get? b with
      | none => rfl
      | some o => exact absurd (Heap.lt_size q) (Nat.not_lt.mpr hb)
    refine ⟨⟨?_, hkeep, Nat.le_refl _⟩, fun q hq => ?_, ?_⟩
    · have := hns
      rw [← hm]; exact this
    · rcases List.mem_cons.mp hq with rfl | hq
      · refine ⟨?_, Nat.ne_of_gt (Nat.lt_succ_self _), none_of _ (Nat.le_succ _)⟩
        obtain ⟨o, ho, hd⟩ := hc1
        exact ⟨o, ho, by show o.data = .cell none; rw [hd]; exact congrArg _ (congrFun hcm n1)⟩
      · rw [List.mem_singleton.mp hq]
        refine ⟨?_, Nat.ne_of_gt (Nat.lt_succ_of_lt (Nat.lt_succ_self _)), none_of _ (Nat.le_succ_of_le (Nat.le_succ _))⟩
        obtain ⟨o, ho, hd⟩ := hc2
        exact ⟨o, ho, by show o.data = .cell none; rw [hd]; exact congrArg _ (congrFun hcm n2)⟩
    · simp
  have R' : Room (A.deeper c'.env) dp un := by
    refine ⟨R.hd, ?_, ?_⟩
    · have := R.dep; show A.depth + 1 + dp < _; lia
    · have := R.un; show A.units + 3 + un < _; lia
  refine wpAny_mono ((H c' _ _ rfl rfl rfl D C1 C2 S.keep (fun q hq => (S.nw q hq).1)).wp.run _ h₁ _ R' S' p1) ?_ (fun _ _ e => e.elim)
  refine Post.thru ?_
  rintro fl h2 tk2 σ2 S2 p2 ⟨add, hsub, hq⟩
  have keep2 : ∀ b o, h.get? b = some o → h2.get? b = some o := S2.keep
  have S3 : St c σ h2 := S.ext keep2
  have hq' : Post c Q (retf fl) ⟨h2, c.g, c.d, tk2, c.os⟩ := by
    refine ⟨h2, tk2, ⟨σ.vs, add ++ σ.news⟩, rfl, ⟨S3.fr, ?_, ?_⟩, p2, hq⟩
    · intro q hp
      rcases List.mem_append.mp hp with hp | hp
      · have y := S2.nw q (hsub.mem hp)
        have hn0 : h.get? q.1 = none := y.2.2
        refine ⟨y.1, ?_, ?_⟩
        · intro e
          obtain ⟨oL, _, _, hL, _⟩ := S.fr.ns
          rw [e, hL] at hn0; cases hn0
        · cases q' : c.h₀.get? q.1 with
          | none => rfl
          | some o => rw [S.keep _ _ q'] at hn0; cases hn0
      · exact S3.nw q hp
    · rw [List.map_append, List.nodup_append]
      refine ⟨(hsub.map (·.1)).nodup S2.nd, S.nd, fun a ha b hb e => ?_⟩
      obtain ⟨q, hp, rfl⟩ := List.mem_map.mp ha
      obtain ⟨r, hq2, rfl⟩ := List.mem_map.mp hb
      have hn0 : h.get? q.1 = none := (S2.nw q (hsub.mem hp)).2.2
      obtain ⟨oq, hoq, _⟩ := (S.nw r hq2).1
      rw [e, hoq] at hn0; cases hn0
  cases fl <;> exact hq'
end Mine
end
section
set_option genInjectivity false
set_option genSizeOf false
set_option genCtorIdx false
set_option bootstrap.genMatcherCode false
open PySem PySem.W PyProof.Rows PySem.Calls PySem.Spec
set_option maxRecDepth 100000
set_option maxHeartbeats 4000000
set_option tactic.hygienic false
namespace Mine
theorem strs_of_values : ∀ (l : List (Str × Tok)) (ts : List T), l.map (·.1) = ts.map S → Strs (strValues l) ts
  | [], [], _ => .nil
  | (x, t) :: l, a :: ts, h => by
    simp only [List.map_cons, List.cons.injEq] at h
    obtain ⟨h1, h2⟩ := h
    show Strs (.str x t :: strValues l) (a :: ts)
    rw [h1]
    exact .cons (strs_of_values l ts h2)
  | [], _ :: _, h => by simp at h
  | _ :: _, [], h => by simp at h
section
variable {c : Cx} {σ : Sg} {Q : Value → Sg → Prop} {env : Env} {pos p1 : Pos} {qn qb qc : Sg → Prop} {qr : Value → Sg → Prop} {a : T} {t u : Tok} {i : Int}
theorem WP.split1 {d : Nat} (ha : a.length ≤ 1000000) (H : ∀ D ys, Strs ys (splitT d a) → Q (.ref D) ⟨σ.vs, (D, lst ys) :: σ.news⟩) : WP c σ (PySem.call (.builtin "str.split") [.str (S a) t, .str (S [d]) u] []) Q := .of0 fun A h tk R Z p => by
  obtain ⟨os, hO, hN⟩ := Z.objs
  refine PyProof.Rows.splitN1 (s := ⟨h, c.g, c.d, tk, c.os⟩) (x := S a) (y := S [d]) Z.fr hN (by rfl) (fun l h' k hl F' N' => ?_) (by rw [S_len]; exact size_ok (by lia))
  refine ⟨h', k, ⟨σ.vs, (h.objs.size, lst (strValues l)) :: σ.news⟩, rfl, St.of_objs F' N' (.cons ⟨0, rfl⟩ hO) ?_, H _ _ (strs_of_values l _ (by rw [hl, split_S]))⟩
  refine List.nodup_cons.mpr ⟨fun hm => ?_, Z.nd⟩
  obtain ⟨q, hq, e⟩ := List.mem_map.mp hm
  obtain ⟨⟨o', h1, _⟩, _⟩ := Z.nw q hq
  exact absurd (Heap.lt_size h1) (by rw [e]; exact Nat.lt_irrefl _)
theorem WP.tTuple {U : Addr} {xs : List Value} {Q : Bool → Sg → Prop} (k : Kn c σ U (tup xs)) (hn : xs.length ≤ 1000000) (H : Q (!xs.isEmpty) σ) : WP c σ (truthy (.ref U)) Q := .of0 fun A h tk R Z p =>
  PyProof.Rows.truthy_tuple (Z.isTup k) (by rw [List.size_toArray]; lia) ⟨_, _, _, rfl, Z, by simpa using H⟩
theorem WP.itemT {value slice} {U : Addr} {xs : List Value} {w : Value} (k : Kn c σ U (tup xs)) (h0 : 0 ≤ i) (hn : xs.length ≤ 1000000) (hx : xs[i.toNat]? = some w) (H : Q w σ) : WP c σ (subscriptTail value slice (.ref U) (.int i t)) Q := .of0 fun A h tk R Z p => by
  have hlt : i.toNat < xs.length := (List.getElem?_eq_some_iff.mp hx).1
  refine wp_sub rfl (PyProof.Rows.IsTup.typeIs (Z.isTup k)) PySem.F.slot_tuple_getitem.lookup (PyProof.Rows.getItem_tuple (j := i.toNat) (Z.isTup k) (by lia) (by lia) ?_ (by simpa using hx) ⟨_, _, _, rfl, Z, H⟩)
  unfold seqIndex?
  rw [List.size_toArray]
  simp
  lia
theorem WS.AssignTupS {elts k value} (H : WP c σ (eval value env) (fun v σ₁ => WP c σ₁ (assign (.Tuple elts k p1) env v) (fun _ σ₂ => qn σ₂))) (hs : swapsWith value (some (.Tuple elts k p1)) pos.line env = Pure.pure false) (hw : swappedStores [.Tuple elts k p1] value env = Pure.pure none := by rfl) :
    WS c σ env (.Assign [.Tuple elts k p1] value pos) qn qr qb qc := by
  refine ⟨fun A h tk R S p₀ => ?_⟩
  refine wpAny_Assign_stores (H.runK R S p₀ ?_) hs hw
  rintro v h1 tk1 σ1 S1 p1 H1
  exact wpAny_mono (H1.run A h1 tk1 R S1 p1) (fun _ _ p => p) fun _ _ e => e
end
end Mine
end
section
set_option genInjectivity false
set_option genSizeOf false
set_option genCtorIdx false
set_option bootstrap.genMatcherCode false
set_option tactic.hygienic true
open PySem PySem.W PyProof.Rows PySem.Calls PySem.Spec
set_option maxRecDepth 100000
set_option maxHeartbeats 4000000
namespace Mine
theorem closureOne {env : Env} {scope : Scope} {x f : Str} {a : Addr} (hn : scope.names = [((".0" : Str), NameKind.local), (x, NameKind.local), (f, NameKind.free)]) (hc : env.cells.lookup f = some a) : closureFor scope env = (Pure.pure [(f, a)] : Sem (List (Str × Addr))) := by
  unfold closureFor cellOf
  rw [hn]
  simp [hc]
theorem CellAt.comp {env : Env} {scope : Scope} {x f : Str} {a C : Addr} (h : CellAt env f a) (hk : scope.kind = .function) (hn : scope.names = [((".0" : Str), NameKind.local), (x, NameKind.local), (f, NameKind.free)]) (h1 : (f == (".0" : Str)) = false) (h2 : (f == x) = false) : CellAt (compEnvC scope [(f, a)] C env) f a where
  kind := hk
  k := by
    show List.lookup f (relabel scope env).names = some .cell
    unfold relabel
    dsimp only
    rw [hn]
    simp [List.lookup_cons, h1, h2, h.kind, h.k]
  l := by
    show List.lookup f [(f, a)] = some a
    simp
  nd := h.nd
theorem scopeOk3 {scope : Scope} {x f : Str} (hk : scope.kind = .function) (hn : scope.names = [((".0" : Str), NameKind.local), (x, NameKind.local), (f, NameKind.free)]) (h1 : (x == (".0" : Str)) = false) (h2 : (x == ("__debug__" : Str)) = false) : ScopeOk scope x where
  cell := by rw [hn]; intro y hy; simp at hy; rcases hy with rfl | rfl | rfl <;> simp
  kind := hk
  names := by
    rw [hn]
    intro y hy hl
    simp at hy
    rcases hy with rfl | rfl | rfl
    · simp
    · simp [List.lookup_cons, h1]
    · cases hl
  lk := by rw [hn]; simp [List.lookup_cons, h1]
  nd := h2
theorem swapsTrue {c : Cx} {ns gs} {elt : PySem.Expr} {gens : List Comprehension} {scope : Scope} {x f y : Str} {pos py : Pos} {line : Nat} (D : EnvOk c ns gs) (hy : y ∈ ns) (hl : (py.line == pos.line) = true) (hn : scope.names = [((".0" : Str), NameKind.local), (x, NameKind.local), (f, NameKind.free)]) (h1 : ((".0" : Str) == y) = false) (h2 : (x == y) = false) :
    swapsWith (.ListComp elt gens scope pos) (some (.Name y py)) line c.env = Pure.pure true := by
  have hb : c.env.blockKind = .function := by
    have := D.kind
    unfold Env.blockKind
    simp [this]
  have hl' : (py.line == (PySem.Expr.ListComp elt gens scope pos).pos.line) = true := hl
  unfold swapsWith
  dsimp only
  rw [hb, (D.loc y hy).1, hl', hn]
  simp [h1, h2]
  cases (f == y) <;> rfl
theorem RowsK.mono {c : Cx} {l l' : Led} {xs rs} (h : RowsK c l xs rs) (hm : ∀ q ∈ l, q ∈ l') : RowsK c l' xs rs := by
  induction h with
  | nil => exact .nil
  | cons h1 h2 _ ih => exact .cons (h1.mono hm) h2 ih
theorem RowsK.snoc {c : Cx} {l : Led} {xs rs} {e : Addr} {ws r} (h : RowsK c l xs rs) (k : Kn c ⟨[], l⟩ e (lst ws)) (hw : Strs ws r) : RowsK c l (xs ++ [.ref e]) (rs ++ [r]) := by
  induction h with
  | nil => exact .cons k hw .nil
  | cons h1 h2 _ ih => exact .cons h1 h2 ih
theorem WP.back {α : Type} {c : Cx} {t : Sem α} {σ : Sg} {Q : α → Sg → Prop} (H : WP c σ t (fun v σ' => ∃ l : Led, σ'.news.Perm l ∧ Q v ⟨σ'.vs, l⟩)) : WP c σ t Q := by
  refine ⟨fun A h tk R S p₀ => wpAny_mono (H.run A h tk R S p₀) ?_ fun _ _ e => e⟩
  refine Post.thru ?_
  rintro v h1 tk1 σ1 S1 p1 ⟨l, hl, hq⟩
  exact ⟨h1, tk1, ⟨σ1.vs, l⟩, rfl, S1.perm hl, p1, hq⟩
theorem split_sum (d : Nat) (a : T) : sumLen (splitT d a) + (splitT d a).length = a.length + 1 := by
  induction a with
  | nil => rfl
  | cons x r ih =>
    unfold sumLen at ih ⊢
    simp only [splitT]
    split
    · simp; lia
    · split
      · rename_i q; exact absurd q (splitT_ne d r)
      · rename_i p ps q
        rw [q] at ih
        simp at ih ⊢; lia
theorem sumLen_filter (p : T → Bool) (l : List T) : sumLen (l.filter p) + (l.filter p).length ≤ sumLen l + l.length := by
  unfold sumLen
  induction l with
  | nil => simp
  | cons x r ih =>
    rw [List.filter_cons]
    split <;> simp at ih ⊢ <;> lia
theorem lcp_sum (a b : List T) : sumLen (lcp a b) + (lcp a b).length ≤ sumLen a + a.length := by
  unfold sumLen
  induction a generalizing b with
  | nil => simp [lcp]
  | cons x a ih =>
    cases b with
    | nil => simp [lcp]
    | cons y b =>
      have := ih b
      unfold lcp
      split <;> simp at this ⊢ <;> lia
theorem comps_sum (p : T) : sumLen (comps p) + (comps p).length ≤ p.length + 1 := by
  have h1 := sumLen_filter keepC (splitT 47 p)
  have h2 := split_sum 47 p
  unfold comps; lia
theorem Strs.take {xs : List Value} {ts : List T} (h : Strs xs ts) (i : Nat) : Strs (xs.take i) (ts.take i) := by
  induction h generalizing i with
  | nil => simp; exact .nil
  | cons _ ih =>
    cases i with
    | zero => exact .nil
    | succ i => exact .cons (ih i)
theorem lcp_at {a b : List T} {i : Nat} (h : a.take i = b.take i) (hi : i < a.length) (hj : i < b.length) (hne : a[i] ≠ b[i]) : lcp a b = a.take i := by
  have e1 : a = a.take i ++ a[i] :: a.drop (i + 1) := by rw [← List.drop_eq_getElem_cons hi, List.take_append_drop]
  have e2 : b = a.take i ++ b[i] :: b.drop (i + 1) := by rw [h, ← List.drop_eq_getElem_cons hj, List.take_append_drop]
  rw [e1, e2, lcp_pre]
  unfold lcp
  rw [if_neg hne, List.append_nil]
  simp
theorem lcp_all {a b : List T} (h : a.take a.length = b.take a.length) : lcp a b = a := by
  rw [List.take_length] at h
  have e2 : b = a ++ b.drop a.length := by conv => lhs; rw [← List.take_append_drop a.length b, ← h]
  conv => lhs; rw [e2]
  have : lcp (a ++ []) (a ++ b.drop a.length) = a ++ lcp [] (b.drop a.length) := lcp_pre _ _ _
  rw [List.append_nil] at this
  rw [this]
  simp [lcp]
theorem long_enough {a b : List T} {i : Nat} (h : a.take i = b.take i) (hi : i < a.length) (hl : lexLt b a = false) : i < b.length := by
  by_cases hj : i < b.length
  · exact hj
  · exfalso
    have e1 : a = a.take i ++ a[i] :: a.drop (i + 1) := by rw [← List.drop_eq_getElem_cons hi, List.take_append_drop]
    have e2 : b = a.take i ++ [] := by rw [h, List.append_nil, List.take_of_length_le (by lia)]
    rw [e1, e2, lexLt_pre] at hl
    simp [lexLt] at hl
end Mine
end
section
set_option genInjectivity false
set_option genSizeOf false
set_option genCtorIdx false
set_option bootstrap.genMatcherCode false
open PySem PySem.W PyProof.Rows PySem.Calls PySem.Spec
set_option maxRecDepth 100000
set_option maxHeartbeats 4000000
set_option tactic.hygienic false
namespace Mine
noncomputable def rng (n : Nat) (o : Obj) : Prop := ∃ t u v, o = { cls := .type "range", dict := none, data := .fields #[.int 0 t, .int (n : Nat) u, .int 1 v], slots := #[] }
noncomputable def rngIt (n : Nat) (i : Nat) (o : Obj) : Prop := o = { cls := .type "range_iterator", dict := none, data := .fields #[rawInt (i : Nat), rawInt ((n : Int) - (i : Nat)), rawInt 1], slots := #[] }
section
variable {c : Cx} {σ : Sg} {env : Env} {pos : Pos} {Q : Value → Sg → Prop} {qn qb qc : Sg → Prop} {qr : Value → Sg → Prop} {t u : Tok}
theorem WP.rangeNew {n : Nat} (H : ∀ d, Q (.ref d) ⟨σ.vs, (d, rng n) :: σ.news⟩) : WP c σ (PySem.call (.type "range") [.int (n : Nat) t] []) Q := .of0 fun A h tk R Z p => by
  refine call_range_1 (s := ⟨h, c.g, c.d, tk, c.os⟩) ?_
  exact ⟨_, _, ⟨σ.vs, (_, rng n) :: σ.news⟩, rfl, Z.push _ _ ⟨_, _, _, rfl⟩ rfl, H _⟩
theorem ItOk.rng {n : Nat} : ItOk c (rngIt n) n (fun i v => ∃ u, v = .int (i : Nat) u) (fun _ => True) where
  next := fun i A h tk I σ R Z p₀ hk hi => by
    have hit : IsRangeIter h I (i : Nat) ((n : Int) - (i : Nat)) 1 := by
      obtain ⟨o, h1, h2⟩ := Z.get (a := I) .head
      rw [h2] at h1
      exact h1
    refine wpAny_pyNext_range_item hit (by lia) fun h' hit' hs' => ?_
    refine ⟨_, rfl, ⟨_, rfl⟩, h', _, _, rfl, Z.step hs' ⟨_, hit', ?_⟩, rfl⟩
    unfold rngIt
    have e1 : ((i + 1 : Nat) : Int) = (i : Int) + 1 := by lia
    have e2 : (n : Int) - ((i : Int) + 1) = (n : Int) - (i : Int) - 1 := by lia
    rw [e1, e2]
  stop := fun A h tk I σ R Z p₀ hk => by
    have hit : IsRangeIter h I (n : Nat) ((n : Int) - (n : Nat)) 1 := by
      obtain ⟨o, h1, h2⟩ := Z.get (a := I) .head
      rw [h2] at h1
      exact h1
    exact wpAny_pyNext_range_end R.hd hit (by lia) fun h' he' => ⟨rfl, h', tk, σ, rfl, Z.drop he', rfl⟩
  own := fun i o ho => ⟨"range_iterator", by rw [show o = _ from ho], by decide⟩
theorem IterOf.rng {r : Addr} {n : Nat} (k : Kn c σ r (rng n)) (hn : n ≤ 1000000) : IterOf c σ (.ref r) (rngIt n) :=
  ⟨fun _ h _ _ Z _ => by
    obtain ⟨o, h1, t, u, v, rfl⟩ := Z.kn k
    refine wpAny_pyIter_range h1 (small_one (by lia) (by lia) (by lia) (by lia)) ?_
    refine ⟨_, rfl, _, _, _, rfl, Z.push _ (rngIt n 0) ?_ rfl, rfl⟩
    unfold rngIt
    rw [rangeSize_one]
    have e : (if (0 : Int) < (n : Int) then (n : Int) - 0 else 0) = (n : Int) - ((0 : Nat) : Int) := by split <;> lia
    rw [e]
    rfl⟩
theorem WS.forRange {target iter body} (H : WP c σ (eval iter env) (fun v σ₁ => Ex3 fun (r : Addr) (n : Nat) (Inv : Nat → Sg → Prop) => A6 (v = .ref r) (Kn c σ₁ r (rng n)) (n ≤ 1000000) (Inv 0 σ₁) ((∀ i u p I σ', i < n → Inv i σ' → WP c ⟨σ'.vs, (I, p) :: σ'.news⟩ (assign target env (.int (i : Nat) u)) (fun _ σ₂ => WLN c σ₂ env body (EndTurn I p (Inv (i + 1))) qr qn (EndTurn I p (Inv (i + 1)))))) ((∀ σ', Inv n σ' → qn σ')))) (hfs : ∀ x, foldedSetIterable iter env x = Pure.pure x := by intro _; rfl) :
    WS c σ env (.For target iter body [] pos) qn qr qb qc := by
  refine .forIt (H.mono ?_) hfs
  rintro v σ₁ ⟨r, n, Inv, rfl, k, hn, h0, ht, hd⟩
  refine ⟨rngIt n, n, fun i v => ∃ u, v = .int (i : Nat) u, fun _ => True, fun i σ' => i ≤ n ∧ Inv i σ', .rng k hn, ⟨.rng, fun _ _ _ => trivial, fun i v I σ' hi hv hI => ?_, fun σ' hI => hd σ' hI.2⟩, Nat.zero_le _, h0⟩
  obtain ⟨u, rfl⟩ := hv
  refine (ht i u (rngIt n (i + 1)) I σ' hi hI.2).mono ?_
  intro _ σ2 h2
  have e : ∀ {s}, EndTurn I (rngIt n (i + 1)) (Inv (i + 1)) s → EndTurn I (rngIt n (i + 1)) (fun σ' => i + 1 ≤ n ∧ Inv (i + 1) σ') s := fun ⟨l, hl, hK⟩ => ⟨l, hl, hi, hK⟩
  exact ⟨fun _ _ _ _ a b x d => h2.all _ _ _ _ (fun σ h => a σ (e h)) b x (fun σ h => d σ (e h))⟩
theorem WP.revL {value slice} {d I : Addr} {vs : List Value} {tk : Tok} (k : Kn c σ d (lst vs)) (ks : Kn c σ I (slc .none .none (.int (-1) tk))) (hn : vs.length ≤ 4000000)
    (H : ∀ f, Q (.ref f) ⟨σ.vs, (f, lst vs.reverse) :: σ.news⟩) : WP c σ (subscriptTail value slice (.ref d) (.ref I)) Q := by
  refine WP.sliceL (lo := none) (hi := none) (st := some (-1)) k ks .none .none (.int _ _) (by decide) hn ?_
  rw [krv_pick]
  exact H
theorem WP.butLast {value slice} {d I : Addr} {vs : List Value} {tk : Tok} (k : Kn c σ d (lst vs)) (ks : Kn c σ I (slc .none (.int (-1) tk) .none)) (hn : vs.length ≤ 4000000)
    (H : ∀ f, Q (.ref f) ⟨σ.vs, (f, lst (vs.take (vs.length - 1))) :: σ.news⟩) : WP c σ (subscriptTail value slice (.ref d) (.ref I)) Q := by
  refine WP.sliceL (lo := none) (hi := some (-1)) (st := none) k ks .none (.int _ _) .none (by decide) hn ?_
  have e := slicePick_butLast vs.toArray 1 (Nat.le_refl 1)
  have e' : (-((1 : Nat) : Int)) = -1 := rfl
  rw [e'] at e
  rw [e]
  exact H
theorem WP.uptoL {value slice} {d I : Addr} {vs : List Value} {n : Nat} {tk : Tok} (k : Kn c σ d (lst vs)) (ks : Kn c σ I (slc .none (.int (n : Nat) tk) .none)) (hn : vs.length ≤ 4000000)
    (H : ∀ f, Q (.ref f) ⟨σ.vs, (f, lst (vs.take n)) :: σ.news⟩) : WP c σ (subscriptTail value slice (.ref d) (.ref I)) Q := by
  refine WP.sliceL (lo := none) (hi := some (n : Int)) (st := none) k ks .none (.int _ _) .none (by decide) hn ?_
  have e := slicePick_upto' vs.toArray n
  rw [e]
  exact H
end
end Mine
end
section
set_option genInjectivity false
set_option genSizeOf false
set_option genCtorIdx false
set_option bootstrap.genMatcherCode false
open PySem PySem.W PyProof.Rows PySem.Calls PySem.Spec
set_option maxRecDepth 100000
set_option maxHeartbeats 4000000
set_option tactic.hygienic false
namespace Mine
section
variable {c : Cx} {σ : Sg} {env : Env} {pos : Pos} {Q : Value → Sg → Prop} {qn qb qc : Sg → Prop} {qr : Value → Sg → Prop}
theorem WS.mono {st} {qn' qb' qc' : Sg → Prop} {qr' : Value → Sg → Prop} (H : WS c σ env st qn' qr' qb' qc') (h1 : ∀ s, qn' s → qn s) (h2 : ∀ v s, qr' v s → qr v s) (h3 : ∀ s, qb' s → qb s) (h4 : ∀ s, qc' s → qc s) : WS c σ env st qn qr qb qc :=
  WP.mono H fun f s h => by cases f <;> first | exact h1 _ h | exact h2 _ _ h | exact h3 _ h | exact h4 _ h
theorem WS.cut {st} (M : Sg → Prop) (H : WS c σ env st M (fun _ _ => False) (fun _ => False) (fun _ => False)) (h : ∀ s, M s → qn s) : WS c σ env st qn qr qb qc :=
  WS.mono H h (fun _ _ h => h.elim) (fun _ h => h.elim) fun _ h => h.elim
theorem WL.gen {sts} (H : ∀ (qn' : Sg → Prop) (qr' : Value → Sg → Prop) (qb' qc' : Sg → Prop), (∀ {s}, qn s → qn' s) → (∀ {v s}, qr v s → qr' v s) → (∀ {s}, qb s → qb' s) → (∀ {s}, qc s → qc' s) → WL c σ env sts qn' qr' qb' qc') : WL c σ env sts qn qr qb qc := H _ _ _ _ id id id id
theorem WP.in_tup2d {q : Addr} {x a b : T} {t u v : Tok} {vs} {l : Led} (H : Q (.bool (decide (a = x) || decide (b = x))) ⟨vs, l⟩) : WP c ⟨vs, (q, tup [.str (S a) u, .str (S b) v]) :: l⟩ (compareOp .In (.str (S x) t) (.ref q)) Q :=
  .drop (.in_tup2 (.led .head) ⟨l, .cons _ (.refl _), H⟩)
theorem ioread1 {q dx : Addr} {b : T} {u tb tp t : Tok} {p : Nat} {vs} {x : Addr × Ob} {l : Led} (hb : b.length ≤ 90000) (hp : p ≤ b.length) (hd : 4 ≤ c.dp) (hu : 60 ≤ c.un)
    (H : ∀ t' tp', Q (.str (S ((b.drop p).take 1)) t') ⟨vs, x :: (q, inst 700 dx) :: (dx, dct (ioAs u b tb (min (p + 1) b.length : Nat) tp')) :: l⟩) :
    WC c ⟨vs, x :: (q, inst 700 dx) :: (dx, dct (ioAs u b tb p tp)) :: l⟩ (.call (.ref 646) ⟨[.ref q, .int 1 t], []⟩) Q := by
  refine WC.perm (l' := (q, inst 700 dx) :: (dx, dct (ioAs u b tb p tp)) :: x :: l) ((List.Perm.swap _ _ _).trans ((List.Perm.swap _ _ _).cons _)) ?_
  refine WC.back (ioread_wc hb hp hd hu ?_)
  intro t' tp'
  exact ⟨_, ((List.Perm.swap _ _ _).cons _).trans (List.Perm.swap _ _ _), H _ _⟩
theorem ioreadline1 {q dx : Addr} {b e f : T} {u tb tp : Tok} {p : Nat} {vs} {x : Addr × Ob} {l : Led} (hb : b.length ≤ 90000) (h : b.drop p = e ++ 10 :: f) (hne : 10 ∉ e) (hd : 4 ≤ c.dp) (hu : 60 ≤ c.un)
    (H : ∀ y t' tp', Q (.str (S y) t') ⟨vs, x :: (q, inst 700 dx) :: (dx, dct (ioAs u b tb (p + e.length + 1 : Nat) tp')) :: l⟩) :
    WC c ⟨vs, x :: (q, inst 700 dx) :: (dx, dct (ioAs u b tb p tp)) :: l⟩ (.call (.ref 654) ⟨[.ref q], []⟩) Q := by
  refine WC.perm (l' := (q, inst 700 dx) :: (dx, dct (ioAs u b tb p tp)) :: x :: l) ((List.Perm.swap _ _ _).trans ((List.Perm.swap _ _ _).cons _)) ?_
  refine WC.back (ioreadline_wc hb h hne hd hu ?_)
  intro y t' tp'
  exact ⟨_, ((List.Perm.swap _ _ _).cons _).trans (List.Perm.swap _ _ _), H _ _ _⟩
end
structure Lx where
  q : Addr
  dx : Addr
  qi : Addr
  di : Addr
  qp : Addr
  qs : Addr
  qc : Addr
  b : T
  ts : Nat → Tok
noncomputable def lexLed (x : Lx) (u tb tp : Tok) (p : Nat) (st tok line : Value) (pbv : List Value) (l : Led) : Led :=
  (x.qi, inst 700 x.di) :: (x.di, dct (ioAs u x.b tb (p : Nat) tp)) :: (x.q, inst 835 x.dx) :: (x.dx, dct (shAs x.qi x.qp x.qs x.qc wordC x.ts st tok true line)) :: (x.qc, dq pbv) :: (x.qs, dq []) :: (x.qp, dq []) :: l
inductive PbV : List Value → T → Prop
  | nil : PbV [] []
  | one {d : Nat} {t : Tok} : PbV [.str (S [d]) t] [d]
@[reducible] def lsT : LS → T
  | .sp => [32]
  | .qt d => [d]
  | .es => [92]
  | .ed => [92]
  | .a => [97]
  | .c => [99]
noncomputable def NextOk (st : Value) (r : T) (E : List Ev) : Prop := (∃ a1, st = .str (S [32]) a1 ∧ Go .sp false [] r E) ∨ (st = .none ∧ r = [] ∧ E = [])
inductive Lexed (x : Lx) (E : List Ev) (l0 l : Led) : Prop
  | mk (hb : x.b.length ≤ 90000) (u tb tp : Tok) (p : Nat) (st : Value) (a2 : Tok) (ln : Int) (a3 : Tok) (pbv : List Value) (pb : T) (e : l = lexLed x u tb tp p st (.str (S []) a2) (.int ln a3) pbv l0) (hpb : PbV pbv pb) (hp : p ≤ x.b.length) (hst : NextOk st (pb ++ x.b.drop p) E)
inductive Tell (E : List Ev) : T → List Ev → Prop
  | word {tok E'} : Wordy tok → E = .word tok :: E' → Tell E tok E'
  | run {tok E'} : Run tok → E = tok.map .sign ++ E' → Tell E tok E'
theorem Tell.ne {E tok E'} (h : Tell E tok E') : tok ≠ [] := by
  cases h with
  | word h => obtain ⟨b, d, rfl, _⟩ := h; simp
  | run h => exact h.1
inductive LexOut (x : Lx) (E : List Ev) (l0 : Led) : Value → Led → Prop
  | eof {l} : E = [] → Lexed x [] l0 l → LexOut x E l0 .none l
  | tok {tok t E' l} : Tell E tok E' → Lexed x E' l0 l → LexOut x E l0 (.str (S tok) t) l
noncomputable def EscOk (st : LS) (esc : T) : Prop := match st with
  | .es => esc = [97]
  | .ed => esc = [34]
  | _ => True
noncomputable def Cur (E : List Ev) (stv : Value) (qd : Bool) (tok r esc : T) : Prop :=
  (∃ st a1, stv = .str (S (lsT st)) a1 ∧ Go st qd tok r E ∧ EscOk st esc) ∨ (stv = .none ∧ qd = false ∧ tok = [] ∧ r = [] ∧ E = [])
end Mine
end
section
set_option genInjectivity false
set_option genSizeOf false
set_option genCtorIdx false
set_option bootstrap.genMatcherCode false
open PySem PySem.W PyProof.Rows PySem.Calls PySem.Spec
set_option maxRecDepth 100000
set_option maxHeartbeats 4000000
set_option tactic.hygienic false
namespace Mine
section
variable {c : Cx} {ns : List Str} {gs : List (Str × Value)} {pos p1 np : Pos} {n attr : Str} {v w st tok line : Value} {vs : List (Option Value)} {e : PySem.Expr} {a s : T} {i j : Int} {t u tb tp : Tok} {x : Lx} {fr : Addr × Ob} {p : Nat} {pbv : List Value} {l0 : Led} {qn qb qc : Sg → Prop} {qr : Value → Sg → Prop} {rest : List Stmt}
theorem LX.a_qi : LedAt x.qi (inst 700 x.di) (fr :: lexLed x u tb tp p st tok line pbv l0) := .tail .head
theorem LX.a_di : LedAt x.di (dct (ioAs u x.b tb (p : Nat) tp)) (fr :: lexLed x u tb tp p st tok line pbv l0) := .tail (.tail .head)
theorem LX.a_q : LedAt x.q (inst 835 x.dx) (fr :: lexLed x u tb tp p st tok line pbv l0) := .tail (.tail (.tail .head))
theorem LX.a_dx : LedAt x.dx (dct (shAs x.qi x.qp x.qs x.qc wordC x.ts st tok true line)) (fr :: lexLed x u tb tp p st tok line pbv l0) := .tail (.tail (.tail (.tail .head)))
theorem LX.a_qc : LedAt x.qc (dq pbv) (fr :: lexLed x u tb tp p st tok line pbv l0) := .tail (.tail (.tail (.tail (.tail .head))))
theorem LX.a_qs : LedAt x.qs (dq []) (fr :: lexLed x u tb tp p st tok line pbv l0) := .tail (.tail (.tail (.tail (.tail (.tail .head)))))
theorem LX.a_qp : LedAt x.qp (dq []) (fr :: lexLed x u tb tp p st tok line pbv l0) := .tail (.tail (.tail (.tail (.tail (.tail (.tail .head))))))
theorem LX.sc {pbv' : List Value} : LedSet x.qc (dq pbv) (dq pbv') (fr :: lexLed x u tb tp p st tok line pbv l0) (fr :: lexLed x u tb tp p st tok line pbv' l0) := .tail (.tail (.tail (.tail (.tail .head))))
theorem LX.set {st' tok' line' : Value} : LedSet x.dx (dct (shAs x.qi x.qp x.qs x.qc wordC x.ts st tok true line)) (dct (shAs x.qi x.qp x.qs x.qc wordC x.ts st' tok' true line')) (fr :: lexLed x u tb tp p st tok line pbv l0) (fr :: lexLed x u tb tp p st' tok' line' pbv l0) := .tail (.tail (.tail (.tail .head)))
theorem EvV.lx (D : EnvOk c ns gs) (hs : SlotAt n (.ref x.q) ns vs) (h : ShA attr w (shAs x.qi x.qp x.qs x.qc wordC x.ts st tok true line)) : EvV c ⟨vs, fr :: lexLed x u tb tp p st tok line pbv l0⟩ (.Attribute (.Name n np) attr pos) w := .sh D hs (.led LX.a_q) (.led LX.a_dx) h
theorem EvV.pch (D : EnvOk c ns gs) (hs : SlotAt n (.ref x.q) ns vs) (hd : 2 ≤ c.dp) (hu : 21 ≤ c.un) : EvV c ⟨vs, fr :: lexLed x u tb tp p st tok line pbv l0⟩ (.Attribute (.Name n np) "punctuation_chars" pos) (.str (S (tx "{,}")) (x.ts 7)) :=
  ⟨fun H => WP.xAttrN (WP.ld D hs (WP.pchars (.led LX.a_q) (.led LX.a_dx) sa_pchars.a (by rfl) hd hu H))⟩
theorem WL.lxStV (D : EnvOk c ns gs) (hs : SlotAt n (.ref x.q) ns vs) (h : EvV c ⟨vs, fr :: lexLed x u tb tp p st tok line pbv l0⟩ e v) (hc : Is (hNoComp e)) (H : WL c ⟨vs, fr :: lexLed x u tb tp p v tok line pbv l0⟩ c.env rest qn qr qb qc) : WL c ⟨vs, fr :: lexLed x u tb tp p st tok line pbv l0⟩ c.env (.Assign [.Attribute (.Name n np) "state" p1] e pos :: rest) qn qr qb qc := WL.shV D h hs (.led LX.a_q) LX.set su_state hc H
theorem WL.lxStS (D : EnvOk c ns gs) (hs : SlotAt n (.ref x.q) ns vs) (h : EvS c ⟨vs, fr :: lexLed x u tb tp p st tok line pbv l0⟩ e s) (hc : Is (hNoComp e)) (H : ∀ t, WL c ⟨vs, fr :: lexLed x u tb tp p (.str (S s) t) tok line pbv l0⟩ c.env rest qn qr qb qc) : WL c ⟨vs, fr :: lexLed x u tb tp p st tok line pbv l0⟩ c.env (.Assign [.Attribute (.Name n np) "state" p1] e pos :: rest) qn qr qb qc :=
  WL.cons (WS.AssignAttr (h.go fun t => WP.ld D hs (WP.shSet (.led LX.a_q) LX.set su_state (H t))) hc.e)
theorem WL.lxTkV (D : EnvOk c ns gs) (hs : SlotAt n (.ref x.q) ns vs) (h : EvV c ⟨vs, fr :: lexLed x u tb tp p st tok line pbv l0⟩ e v) (hc : Is (hNoComp e)) (H : WL c ⟨vs, fr :: lexLed x u tb tp p st v line pbv l0⟩ c.env rest qn qr qb qc) : WL c ⟨vs, fr :: lexLed x u tb tp p st tok line pbv l0⟩ c.env (.Assign [.Attribute (.Name n np) "token" p1] e pos :: rest) qn qr qb qc := WL.shV D h hs (.led LX.a_q) LX.set su_token hc H
theorem WL.lxTkS (D : EnvOk c ns gs) (hs : SlotAt n (.ref x.q) ns vs) (h : EvS c ⟨vs, fr :: lexLed x u tb tp p st tok line pbv l0⟩ e s) (hc : Is (hNoComp e)) (H : ∀ t, WL c ⟨vs, fr :: lexLed x u tb tp p st (.str (S s) t) line pbv l0⟩ c.env rest qn qr qb qc) : WL c ⟨vs, fr :: lexLed x u tb tp p st tok line pbv l0⟩ c.env (.Assign [.Attribute (.Name n np) "token" p1] e pos :: rest) qn qr qb qc :=
  WL.cons (WS.AssignAttr (h.go fun t => WP.ld D hs (WP.shSet (.led LX.a_q) LX.set su_token (H t))) hc.e)
theorem WL.lxTkA (D : EnvOk c ns gs) (hs : SlotAt n (.ref x.q) ns vs) (h : EvS c ⟨vs, fr :: lexLed x u tb tp p st (.str (S a) t) line pbv l0⟩ e s) (hz : a.length + s.length ≤ 4000000) (H : ∀ t, WL c ⟨vs, fr :: lexLed x u tb tp p st (.str (S (a ++ s)) t) line pbv l0⟩ c.env rest qn qr qb qc) : WL c ⟨vs, fr :: lexLed x u tb tp p st (.str (S a) t) line pbv l0⟩ c.env (.AugAssign (.Attribute (.Name n np) "token" p1) .Add e pos :: rest) qn qr qb qc :=
  WL.cons (WS.AugAttr (WP.ld D hs (WP.shGet (.led LX.a_q) (.led LX.a_dx) (sa_token rfl) (h.go fun _ => WP.iadd_str hz fun t => WP.shSet (.led LX.a_q) LX.set su_token (H t)))))
theorem WL.lxLnA (D : EnvOk c ns gs) (hs : SlotAt n (.ref x.q) ns vs) (h : EvI c ⟨vs, fr :: lexLed x u tb tp p st tok (.int i t) pbv l0⟩ e j) (H : ∀ t, WL c ⟨vs, fr :: lexLed x u tb tp p st tok (.int (i + j) t) pbv l0⟩ c.env rest qn qr qb qc) : WL c ⟨vs, fr :: lexLed x u tb tp p st tok (.int i t) pbv l0⟩ c.env (.AugAssign (.Attribute (.Name n np) "lineno" p1) .Add e pos :: rest) qn qr qb qc :=
  WL.cons (WS.AugAttr (WP.ld D hs (WP.shGet (.led LX.a_q) (.led LX.a_dx) (sa_lineno rfl) (h.go fun _ => WP.iadd_int fun t => WP.shSet (.led LX.a_q) LX.set su_lineno (H t)))))
theorem lxRead1 {Q : Value → Sg → Prop} (hb : x.b.length ≤ 90000) (hp : p ≤ x.b.length) (hd : 4 ≤ c.dp) (hu : 60 ≤ c.un) (H : ∀ t' tp', Q (.str (S ((x.b.drop p).take 1)) t') ⟨vs, fr :: lexLed x u tb tp' (min (p + 1) x.b.length) st tok line pbv l0⟩) : WC c ⟨vs, fr :: lexLed x u tb tp p st tok line pbv l0⟩ (.call (.ref 646) ⟨[.ref x.qi, .int 1 t], []⟩) Q := ioread1 hb hp hd hu H
theorem lxLine1 {Q : Value → Sg → Prop} {e f : T} (hb : x.b.length ≤ 90000) (h : x.b.drop p = e ++ 10 :: f) (hne : 10 ∉ e) (hd : 4 ≤ c.dp) (hu : 60 ≤ c.un) (H : ∀ y t' tp', Q (.str (S y) t') ⟨vs, fr :: lexLed x u tb tp' (p + e.length + 1) st tok line pbv l0⟩) : WC c ⟨vs, fr :: lexLed x u tb tp p st tok line pbv l0⟩ (.call (.ref 654) ⟨[.ref x.qi], []⟩) Q := ioreadline1 hb h hne hd hu H
end
end Mine
end
section
set_option genInjectivity false
set_option genSizeOf false
set_option genCtorIdx false
set_option bootstrap.genMatcherCode false
open PySem PySem.W PyProof.Rows PySem.Calls PySem.Spec
set_option maxRecDepth 100000
set_option maxHeartbeats 4000000
set_option tactic.hygienic false
namespace Mine
inductive DropTo (K : Sg → Prop) (σ : Sg) : Prop
  | mk (l : Led) (h : l.Sublist σ.news) (k : K ⟨σ.vs, l⟩)
section
variable {c : Cx} {σ : Sg} {env : Env} {pos : Pos} {Q : Value → Sg → Prop} {qn qb qc : Sg → Prop} {qr : Value → Sg → Prop} {t u : Tok}
theorem WL.ends {sts} (H : WL c σ env sts (DropTo qn) (fun v => DropTo (qr v)) (DropTo qb) (DropTo qc)) : WL c σ env sts qn qr qb qc := by
  refine WP.drop (WP.mono H fun f s h => ?_)
  cases f <;> (obtain ⟨l, h1, h2⟩ := (h : DropTo _ _); exact ⟨l, h1, h2⟩)
theorem WS.cutD {st} (M : Sg → Prop) (H : WS c σ env st (DropTo M) (fun _ _ => False) (fun _ => False) (fun _ => False)) (h : ∀ s, M s → qn s) : WS c σ env st qn qr qb qc := by
  refine WS.cut M (WP.drop (WP.mono H fun f s h => ?_)) h
  cases f with
  | next => obtain ⟨l, h1, h2⟩ := (h : DropTo _ _); exact ⟨l, h1, h2⟩
  | ret v => exact h.elim
  | brk => exact h.elim
  | cont => exact h.elim
end
theorem Strs.rev {ys : List Value} {ts : List T} (h : Strs ys ts) : Strs ys.reverse ts.reverse := by
  induction h with
  | nil => exact .nil
  | cons _ ih =>
    rw [List.reverse_cons, List.reverse_cons]
    exact ih.snoc _ _
theorem WLN.of {c : Cx} {σ : Sg} {env : Env} {sts : List Stmt} {qn : Sg → Prop} {qr : Value → Sg → Prop} {qb qc : Sg → Prop} (H : WL c σ env sts qn qr qb qc) : WLN c σ env sts qn qr qb qc :=
  ⟨fun _ _ _ _ a b d e => WP.mono H fun f _ h => by
    cases f with
    | next => exact a _ h
    | ret v => exact b _ _ h
    | brk => exact d _ h
    | cont => exact e _ h⟩
end Mine
end
section
set_option genInjectivity false
set_option genSizeOf false
set_option genCtorIdx false
set_option bootstrap.genMatcherCode false
open PySem PySem.W PyProof.Rows PySem.Calls PySem.Spec
set_option maxRecDepth 100000
set_option maxHeartbeats 4000000
set_option tactic.hygienic false
namespace Mine
theorem closureNil {env : Env} {scope : Scope} {x : Str} (hn : scope.names = [((".0" : Str), NameKind.local), (x, NameKind.local)]) : closureFor scope env = (Pure.pure [] : Sem (List (Str × Addr))) := by
  unfold closureFor
  rw [hn]
  rfl
theorem scopeOk2 {scope : Scope} {x : Str} (hk : scope.kind = .function) (hn : scope.names = [((".0" : Str), NameKind.local), (x, NameKind.local)]) (h1 : (x == (".0" : Str)) = false) (h2 : (x == ("__debug__" : Str)) = false) : ScopeOk scope x where
  cell := by rw [hn]; intro y hy; simp at hy; rcases hy with rfl | rfl <;> simp
  kind := hk
  names := by
    rw [hn]
    intro y hy hl
    simp at hy
    rcases hy with rfl | rfl
    · simp
    · simp [List.lookup_cons, h1]
  lk := by rw [hn]; simp [List.lookup_cons, h1]
  nd := h2
end Mine
end
section
set_option genInjectivity false
set_option genSizeOf false
set_option genCtorIdx false
set_option bootstrap.genMatcherCode false
open PySem PySem.W PyProof.Rows PySem.Calls PySem.Spec
open PySem.SeqAt PySem.SeqAt
set_option maxRecDepth 100000
set_option maxHeartbeats 4000000
set_option tactic.hygienic false
namespace Mine
section
variable {c : Cx} {σ : Sg} {Q : Value → Sg → Prop}
theorem same_at {A : Around} {s : Shared} {xs ys : List Value} {ts : List T} (hx : Strs xs ts) (hy : Strs ys ts) : ∀ j (h1 : j < xs.toArray.size) (h2 : j < ys.toArray.size), EqAt A s xs.toArray[j] ys.toArray[j] true := by
  intro j h1 h2
  have h1' : j < xs.length := by simpa using h1
  have h2' : j < ys.length := by simpa using h2
  obtain ⟨a, ta, ha, hva⟩ := hx.get (List.getElem?_eq_getElem h1')
  obtain ⟨b, tb, hb, hvb⟩ := hy.get (List.getElem?_eq_getElem h2')
  have hab : a = b := by rw [ha] at hb; injection hb
  subst hab
  have e1 : xs.toArray[j] = .str (S a) ta := by simpa using hva
  have e2 : ys.toArray[j] = .str (S a) tb := by simpa using hvb
  rw [e1, e2]
  intro prog w E Q h
  refine eqBool_str ?_
  simpa using h
theorem all_true (n : Nat) : ((List.range n).all fun _ => true) = true := by simp
theorem WP.eqSame {d e : Addr} {xs ys : List Value} {ts : List T} (k1 : Kn c σ d (lst xs)) (k2 : Kn c σ e (lst ys)) (hx : Strs xs ts) (hy : Strs ys ts) (H : Q (.bool true) σ) : WP c σ (compareOp .Eq (.ref d) (.ref e)) Q :=
  .of0 fun A h tk R Z _ => by
    refine eq_listAt (e := fun _ => true) (s := ⟨h, c.g, c.d, tk, c.os⟩) (Z.isList k1) (Z.isList k2) (by rw [List.size_toArray, List.size_toArray, hx.len, hy.len]) (by have := R.un; lia) (same_at hx hy) ?_
    rw [all_true]
    exact ⟨_, _, _, rfl, Z, H⟩
theorem WP.neSame {d e : Addr} {xs ys : List Value} {ts : List T} (k1 : Kn c σ d (lst xs)) (k2 : Kn c σ e (lst ys)) (hx : Strs xs ts) (hy : Strs ys ts) (H : Q (.bool false) σ) : WP c σ (compareOp .NotEq (.ref d) (.ref e)) Q :=
  .of0 fun A h tk R Z _ => by
    refine RcNeAt.lists (e := fun _ => true) (s := ⟨h, c.g, c.d, tk, c.os⟩) (Z.isList k1) (Z.isList k2) (by rw [List.size_toArray, List.size_toArray, hx.len, hy.len]) (by have := R.un; lia) (same_at hx hy) _ _ _ _ ?_
    rw [all_true]
    exact ⟨_, _, _, rfl, Z, H⟩
end
end Mine
end
section
set_option genInjectivity false
set_option genSizeOf false
set_option genCtorIdx false
set_option bootstrap.genMatcherCode false
open PySem PySem.W PyProof.Rows PySem.Calls PySem.Spec
set_option maxRecDepth 100000
set_option maxHeartbeats 4000000
set_option tactic.hygienic false
namespace Mine
section
variable {c : Cx} {σ : Sg} {env : Env} {pos : Pos} {Q : Value → Sg → Prop}
theorem WP.xAnd2 {x y : PySem.Expr} (H : WP c σ (eval x env) (fun v σ₁ => v = .bool true ∧ WP c σ₁ (eval y env) Q)) : WP c σ (eval (.BoolOp .And [x, y] pos) env) Q := by
  refine ⟨fun A h tk R S p₀ => ?_⟩
  refine BoolOp_and (H.runK R S p₀ ?_)
  rintro v h1 tk1 σ1 S1 p1 ⟨rfl, H1⟩
  refine wpAny_truthy_bool ?_
  exact BoolOp_one (H1.run A h1 tk1 R S1 p1)
end
end Mine
end
section
set_option genInjectivity false
set_option genSizeOf false
set_option genCtorIdx false
set_option bootstrap.genMatcherCode false
open PySem PySem.W PyProof.Rows PySem.Calls PySem.Spec
set_option maxRecDepth 100000
set_option maxHeartbeats 4000000
set_option tactic.hygienic false
namespace Mine
noncomputable def dg (n : Nat) : T := tx (toString ((n : Nat) : Int))
section
variable {c : Cx} {σ : Sg} {Q : Value → Sg → Prop} {i : Int} {t : Tok}
theorem WP.abs_int (H : ∀ t', Q (.int (i.natAbs : Nat) t') σ) : WP c σ (PySem.call (.builtin "abs") [.int i t] []) Q := .of0 fun _ _ _ _ Z _ => by
  refine call_abs_int fun u tk => ?_
  have e : (if i < 0 then -i else i) = (i.natAbs : Nat) := by split <;> lia
  rw [e]
  exact ⟨_, _, _, rfl, Z, H _⟩
theorem WP.chr_int {n : Nat} (hn : n ≤ 1114111) (H : ∀ t', Q (.str (S [n]) t') σ) : WP c σ (PySem.call (.builtin "chr") [.int (n : Nat) t] []) Q := .of0 fun _ _ _ _ Z _ => by
  refine chr_of_range (by lia) (by lia) ?_
  exact ⟨_, _, _, rfl, Z, H _⟩
theorem WP.str_int {n : Nat} (hn : n ≤ 1000000) (H : ∀ t', Q (.str (S (dg n)) t') σ) : WP c σ (PySem.call (.type "str") [.int (n : Nat) t] []) Q := .of0 fun _ _ _ _ Z _ => by
  refine P.str_of_int ?_ ?_
  · refine shown (N := 1000001) (by lia) (by lia) ?_
    decide +kernel
  · refine ⟨_, _, _, rfl, Z, ?_⟩
    have := H
    unfold dg at this
    rw [← tx_S] at this
    exact this _
theorem WP.popL {d : Addr} {vs : List Value} {v : Value} {l l' : Led} {sl} (u : LedSet d (lst (vs ++ [v])) (lst vs) l l') (hn : vs.length ≤ 1000000) (H : Q v ⟨sl, l'⟩) : WP c ⟨sl, l⟩ (PySem.call (.builtin "list.pop") [.ref d] []) Q := .of0 fun _ h _ _ Z _ => by
  obtain ⟨o, ho, n, rfl⟩ := Z.kn (.led u.at)
  have hz : (vs ++ [v]).toArray.size ≤ sizeLine := by rw [List.size_toArray, List.length_append]; exact size_ok (by rw [List.length_singleton]; lia)
  refine call_meets PySem.F.slot_list_pop ⟨_, ho, rfl⟩ PySem.F.entry_list_pop (PySem.F.args_list_pop_1 _) (MeetsSeq.list_pop_last d (vs ++ [v]).toArray n v (by simp) hz) ⟨ho, ?_⟩
  refine ⟨_, _, ⟨sl, l'⟩, rfl, Z.upd u (Heap.SameBut.update ..) ⟨_, Heap.get?_update_self _ ho rfl, ⟨n + 1, ?_⟩⟩, H⟩
  have e1 : (vs ++ [v]).toArray.size - 1 = vs.length := by simp
  have e2 : (vs ++ [v]).toArray.eraseIdxIfInBounds vs.length = vs.toArray := by
    simp [Array.eraseIdxIfInBounds]
    rw [List.eraseIdx_append_of_length_le (Nat.le_refl _)]
    simp
  rw [e1]
  unfold Obj.mapSeq
  dsimp only
  rw [e2]
  have e3 : (vs.toArray.size == (vs ++ [v]).toArray.size) = false := by simp
  rw [e3]
  rfl
end
end Mine
end
section
set_option genInjectivity false
set_option genSizeOf false
set_option genCtorIdx false
set_option bootstrap.genMatcherCode false
open PySem PySem.W PyProof.Rows PySem.Calls PySem.Spec
set_option maxRecDepth 100000
set_option maxHeartbeats 4000000
set_option tactic.hygienic false
namespace Mine
noncomputable def KC (C : Led) (vs : List Value) (f : Forest) : Prop := Kids (fun a p => (a, p) ∈ C) vs f
theorem KC.mono {C C' : Led} {vs f} (h : KC C vs f) (hs : ∀ q ∈ C, q ∈ C') : KC C' vs f := Kids.mono h fun a p k => hs _ k
theorem KC.snocL {C : Led} {vs f} {e : Addr} {n g : T} {w : Nat} {t u v : Tok} (h : KC C vs f) (he : (e, lst [.str (S n) t, .int w u, .str (S g) v, .none]) ∈ C) : KC C (vs ++ [.ref e]) (f.snocL n w g) := by
  unfold KC at h ⊢
  induction h with
  | nil => exact .leaf he .nil
  | leaf h1 _ ih => exact .leaf h1 ih
  | node h1 h2 h3 _ _ ih => exact .node h1 h2 h3 ih
theorem KC.snocN {C : Led} {vs f} {e b : Addr} {n g : T} {w : Nat} {t u v : Tok} {ks d} (h : KC C vs f) (he : (e, lst [.str (S n) t, .int w u, .str (S g) v, .ref b]) ∈ C) (hb : (b, lst ks) ∈ C) (hk : KC C ks d) : KC C (vs ++ [.ref e]) (Forest.snocN n w g d f) := by
  unfold KC at h ⊢
  induction h with
  | nil => exact .node he hb hk .nil
  | leaf h1 _ ih => exact .leaf h1 ih
  | node h1 h2 h3 _ _ ih => exact .node h1 h2 h3 ih
theorem dg_ok : ∀ i, i < 30 → dg i ≠ [] ∧ (dg i).length ≤ 2 ∧ (∀ d ∈ dg i, Digit d) := by
  have h : ∀ i, i < 30 → (decide (dg i ≠ []) && decide ((dg i).length ≤ 2) && (dg i).all fun d => decide (48 ≤ d) && decide (d ≤ 57)) = true := by decide +kernel
  intro i hi
  have := h i hi
  simp only [Bool.and_eq_true, decide_eq_true_eq, List.all_eq_true] at this
  exact ⟨this.1.1, this.1.2, this.2⟩
theorem dg_inj : ∀ i, i < 30 → ∀ j, j < 30 → dg i = dg j → i = j := by decide +kernel
noncomputable def NameAt (n : T) (i : Nat) : Prop := ∃ w, WordOk w ∧ n = w ++ dg i
theorem NameAt.ok {n : T} {i : Nat} (h : NameAt n i) (hi : i < 30) : NameOk n := by
  obtain ⟨w, hw, rfl⟩ := h
  obtain ⟨h1, h2, h3⟩ := dg_ok i hi
  obtain ⟨b, d, hd⟩ : ∃ b d, dg i = b ++ [d] := ⟨(dg i).dropLast, (dg i).getLast h1, (List.dropLast_concat_getLast h1).symm⟩
  have hdd : Digit d := h3 d (by rw [hd]; simp)
  refine ⟨?_, ?_, ?_, ?_, ⟨w ++ b, d, by rw [hd, List.append_assoc], hdd.1, hdd.2⟩⟩
  · rw [hd]; simp
  · intro hm
    rcases List.mem_append.mp hm with hm | hm
    · exact hw.sl hm
    · have := (h3 _ hm).1; lia
  · intro e
    rw [hd, ← List.append_assoc] at e
    have := congrArg List.getLast? e
    simp at this
    have := hdd.1
    lia
  · have := hw.short
    rw [List.length_append]; lia
theorem NameAt.same {n : T} {i j : Nat} (h : NameAt n i) (h' : NameAt n j) (hi : i < 30) (hj : j < 30) : i = j := by
  obtain ⟨w, hw, rfl⟩ := h
  obtain ⟨w', hw', e⟩ := h'
  exact dg_inj i hi j hj (number_same hw hw' (dg_ok i hi).2.2 (dg_ok j hj).2.2 e)
structure LvOk (f : Forest) (j : Nat) : Prop where
  ok : f.Ok
  dist : f.Dist
  depth : f.depth + j ≤ 4
  named : ∀ i n, f.names[i]? = some n → NameAt n i
theorem LvOk.nil {j : Nat} (h : j ≤ 4) : LvOk .nil j := ⟨trivial, trivial, by simpa [Forest.depth] using h, fun i n e => by simp [Forest.names] at e⟩
theorem LvOk.new {f : Forest} {j : Nat} (h : LvOk f j) (hc : f.top < 30) {n : T} (hn : NameAt n f.top) : n ∉ f.names := by
  intro hm
  obtain ⟨i, hi⟩ := List.getElem?_of_mem hm
  have h1 : i < f.top := by rw [← names_len]; exact (List.getElem?_eq_some_iff.mp hi).1
  have := (h.named i n hi).same hn (by lia) hc
  lia
theorem named_snoc {f : Forest} {n : T} (h : ∀ i m, f.names[i]? = some m → NameAt m i) (hn : NameAt n f.top) : ∀ i m, (f.names ++ [n])[i]? = some m → NameAt m i := by
  intro i m hi
  rcases Nat.lt_or_ge i f.names.length with h1 | h1
  · rw [List.getElem?_append_left h1] at hi; exact h i m hi
  · rw [List.getElem?_append_right h1] at hi
    have : i - f.names.length = 0 := by
      rcases Nat.eq_zero_or_pos (i - f.names.length) with h2 | h2
      · exact h2
      · rw [List.getElem?_eq_none (by simp; lia)] at hi; cases hi
    rw [this] at hi
    have e : n = m := by simpa using hi
    have e2 : i = f.top := by rw [← names_len]; lia
    rw [← e, e2]; exact hn
theorem LvOk.snocL {f : Forest} {j : Nat} {n g : T} {w : Nat} (h : LvOk f j) (hc : f.top < 30) (hn : NameAt n f.top) (hw : w < 3) (hg : Gap g) (hj : (Forest.leaf n w g .nil).depth + j ≤ 4) : LvOk (f.snocL n w g) j := by
  refine ⟨snocL_ok (hn.ok hc) hw hg f h.ok, snocL_dist f (h.new hc hn) h.dist, ?_, ?_⟩
  · rw [snocL_depth]; have := h.depth; lia
  · rw [snocL_names]; exact named_snoc h.named hn
theorem LvOk.snocN {f k : Forest} {j : Nat} {n g : T} {w : Nat} (h : LvOk f j) (hk : LvOk k (j + 1)) (hc : f.top < 30) (hn : NameAt n f.top) (hw : w < 3) (hg : Gap g) : LvOk (Forest.snocN n w g k f) j := by
  refine ⟨snocN_ok (hn.ok hc) hw hg hk.ok f h.ok, snocN_dist hk.dist f (h.new hc hn) h.dist, ?_, ?_⟩
  · have := snocN_depth n w g k f; have := h.depth; have := hk.depth; lia
  · rw [snocN_names]; exact named_snoc h.named hn
inductive Above (C : Led) : Addr → List (Addr × List Value) → Nat → Nat → Prop
  | top {a} : Above C a [] 0 0
  | under {a p : Addr} {done : List Value} {ps f} {e : Addr} {n g : T} {w : Nat} {t u v : Tok} {j m : Nat} : Above C p ps j m → KC C done f → LvOk f j → f.top < 30 → NameAt n f.top → w < 3 → Gap g → (e, lst [.str (S n) t, .int w u, .str (S g) v, .ref a]) ∈ C → Above C a ((p, done ++ [.ref e]) :: ps) (j + 1) (m + f.count + 1)
theorem Above.mono {C C' : Led} {a ps j m} (h : Above C a ps j m) (hs : ∀ q ∈ C, q ∈ C') : Above C' a ps j m := by
  induction h with
  | top => exact .top
  | under h1 h2 h3 h4 h5 h6 h7 h8 ih => exact .under ih (h2.mono hs) h3 h4 h5 h6 h7 (hs _ h8)
noncomputable def bottom : Addr → List (Addr × List Value) → Addr
  | a, [] => a
  | _, (p, _) :: ps => bottom p ps
theorem Above.close {C : Led} {a ps j m} (h : Above C a ps j m) : ∀ {vs f}, KC C vs f → LvOk f j → (∀ q ∈ ps, (q.1, lst q.2) ∈ C) → (a, lst vs) ∈ C → ∃ ks F, KC C ks F ∧ (bottom a ps, lst ks) ∈ C ∧ LvOk F 0 ∧ F.count = m + f.count ∧ (ps ≠ [] ∨ f ≠ .nil → F ≠ .nil) := by
  induction h with
  | top =>
    intro vs f hk ho _ ha
    exact ⟨vs, f, hk, ha, ho, by lia, fun h => h.elim (fun h => absurd rfl h) id⟩
  | @under a p done ps f0 e n g w t u v j m h1 h2 h3 h4 h5 h6 h7 h8 ih =>
    intro vs f hk ho hps ha
    obtain ⟨ks, F, k1, k2, k3, k4, k5⟩ := ih (h2.snocN h8 ha hk) (h3.snocN ho h4 h5 h6 h7) (fun q hq => hps q (.tail _ hq)) (hps _ (.head _))
    refine ⟨ks, F, k1, k2, k3, ?_, fun _ => k5 (.inr (snocN_ne _ _ _ _ _))⟩
    rw [k4, snocN_count]; lia
end Mine
end
section
open PySem PySem.W PyProof.Rows PySem.Calls PySem.Spec
namespace Mine
theorem wsp_facts {d : Nat} (h : Wsp d) : decide (d ∈ tx " \t\r\n") = true ∧ (!decide (d ∈ tx " \t\r\n")) = false := by rcases h with rfl | rfl | rfl <;> exact ⟨by decide, by decide⟩
theorem punc_facts {d : Nat} (h : Punc d) : decide (d ∈ tx " \t\r\n") = false ∧ decide (d ∈ tx "#") = false ∧ decide (d ∈ tx "\\") = false ∧ decide (d ∈ wordC) = false ∧ decide (d ∈ tx "{,}") = true ∧ decide (d ∈ tx "'\"") = false ∧ (!decide (d ∈ tx "{,}")) = false := by
  rcases h with rfl | rfl | rfl
  · exact ⟨by decide, by decide, by decide, wc123, by decide, by decide, by decide⟩
  · exact ⟨by decide, by decide, by decide, wc44, by decide, by decide, by decide⟩
  · exact ⟨by decide, by decide, by decide, wc125, by decide, by decide, by decide⟩
theorem quo_facts {d : Nat} (h : Quo d) : decide (d ∈ tx " \t\r\n") = false ∧ decide (d ∈ tx "#") = false ∧ decide (d ∈ tx "\\") = false ∧ decide (d ∈ wordC) = false ∧ decide (d ∈ tx "{,}") = false ∧ decide (d ∈ tx "'\"") = true ∧ (!decide (d ∈ tx " \t\r\n")) = true := by
  rcases h with rfl | rfl
  · exact ⟨by decide, by decide, by decide, wc39, by decide, by decide, by decide⟩
  · exact ⟨by decide, by decide, by decide, wc34, by decide, by decide, by decide⟩
theorem pf1 {d : Nat} (h : Punc d) : decide (d ∈ tx " \t\r\n") = false := (punc_facts h).1
theorem pf2 {d : Nat} (h : Punc d) : decide (d ∈ tx "#") = false := (punc_facts h).2.1
theorem pf3 {d : Nat} (h : Punc d) : decide (d ∈ tx "\\") = false := (punc_facts h).2.2.1
theorem pf4 {d : Nat} (h : Punc d) : decide (d ∈ wordC) = false := (punc_facts h).2.2.2.1
theorem pf5 {d : Nat} (h : Punc d) : decide (d ∈ tx "{,}") = true := (punc_facts h).2.2.2.2.1
theorem pf6 {d : Nat} (h : Punc d) : decide (d ∈ tx "'\"") = false := (punc_facts h).2.2.2.2.2.1
theorem pf7 {d : Nat} (h : Punc d) : (!decide (d ∈ tx "{,}")) = false := (punc_facts h).2.2.2.2.2.2
theorem qf1 {d : Nat} (h : Quo d) : decide (d ∈ tx " \t\r\n") = false := (quo_facts h).1
theorem qf2 {d : Nat} (h : Quo d) : decide (d ∈ tx "#") = false := (quo_facts h).2.1
theorem qf3 {d : Nat} (h : Quo d) : decide (d ∈ tx "\\") = false := (quo_facts h).2.2.1
theorem qf4 {d : Nat} (h : Quo d) : decide (d ∈ wordC) = false := (quo_facts h).2.2.2.1
theorem qf5 {d : Nat} (h : Quo d) : decide (d ∈ tx "{,}") = false := (quo_facts h).2.2.2.2.1
theorem qf6 {d : Nat} (h : Quo d) : decide (d ∈ tx "'\"") = true := (quo_facts h).2.2.2.2.2.1
theorem qf7 {d : Nat} (h : Quo d) : (!decide (d ∈ tx " \t\r\n")) = true := (quo_facts h).2.2.2.2.2.2
theorem wf1 {d : Nat} (h : Wsp d) : decide (d ∈ tx " \t\r\n") = true := (wsp_facts h).1
theorem wf2 {d : Nat} (h : Wsp d) : (!decide (d ∈ tx " \t\r\n")) = false := (wsp_facts h).2
theorem go_quo {d : Nat} {q tok r E} (h : Go (.qt d) q tok r E) : Quo d := by
  cases h with
  | q_end h _ => exact h
  | q_esc _ => exact .inr rfl
  | q_ch h _ _ _ => exact h
theorem drop_line {b e f : T} {p : Nat} (h : b.drop p = e ++ 10 :: f) : f = b.drop (p + e.length + 1) ∧ p + e.length + 1 ≤ b.length := by
  have hlen := congrArg List.length h
  simp only [List.length_drop, List.length_append, List.length_cons] at hlen
  refine ⟨?_, by lia⟩
  have : b.drop (p + e.length + 1) = (b.drop p).drop (e.length + 1) := by rw [List.drop_drop]; congr 1
  rw [this, h, List.drop_append]
  simp [List.drop_of_length_le]
inductive RtO (fr : Addr × Ob) (x : Lx) (E : List Ev) (l0 : Led) (σ' : Sg) : Prop
  | mk (stv : Value) (qd : Bool) (tok : T) (pbv : List Value) (pb : T) (p : Nat) (u tb tp a2 : Tok) (ln : Int) (a3 : Tok) (x2 x3 : Option Value) (r : T) (e : σ' = ⟨[some (.ref x.q), some (.bool qd), x2, x3, none], fr :: lexLed x u tb tp p stv (.str (S tok) a2) (.int ln a3) pbv l0⟩) (h1 : PbV pbv pb) (h2 : p ≤ x.b.length) (h3 : r = pb ++ x.b.drop p)
      (h4 : (∃ E', Tell E tok E' ∧ NextOk stv r E') ∨ (tok = [] ∧ qd = false ∧ stv = .none ∧ r = [] ∧ E = []))
inductive RtI (fr : Addr × Ob) (x : Lx) (E : List Ev) (l0 : Led) (n : Nat) (σ' : Sg) : Prop
  | mk (stv : Value) (qd : Bool) (tok r : T) (pbv : List Value) (pb : T) (p : Nat) (u tb tp a2 : Tok) (ln : Int) (a3 : Tok) (esc : T) (a4 : Tok) (nx : Option Value) (e : σ' = ⟨[some (.ref x.q), some (.bool qd), some (.str (S esc) a4), nx, none], fr :: lexLed x u tb tp p stv (.str (S tok) a2) (.int ln a3) pbv l0⟩) (h1 : PbV pbv pb) (h2 : p ≤ x.b.length) (h3 : r = pb ++ x.b.drop p)
      (h4 : n = r.length) (h5 : Cur E stv qd tok r esc) (h6 : tok.length + r.length ≤ 90001)
section
variable {fr : Addr × Ob} {x : Lx} {E : List Ev} {l0 : Led} {st : LS} {a1 a2 a3 a4 u tb tp : Tok} {qd : Bool} {tok r esc : T} {p d y : Nat} {ln : Int} {nx : Option Value}
theorem RtI.keep (hp : p ≤ x.b.length) (hr : r = x.b.drop p) (hg : Go st qd tok r E) (he : EscOk st esc) (htl : tok.length + (d :: r).length ≤ 90001) : ∃ n', n' < (d :: r).length ∧ RtI fr x E l0 n' ⟨[some (.ref x.q), some (.bool qd), some (.str (S esc) a4), nx, none], fr :: lexLed x u tb tp p (.str (S (lsT st)) a1) (.str (S tok) a2) (.int ln a3) [] l0⟩ :=
  ⟨r.length, Nat.lt_succ_self _, _, _, _, r, [], [], p, u, tb, tp, a2, ln, a3, esc, a4, nx, rfl, .nil, hp, hr, rfl, .inl ⟨st, a1, rfl, hg, he⟩, Nat.le_of_succ_le htl⟩
theorem RtI.add (hp : p ≤ x.b.length) (hr : r = x.b.drop p) (hg : Go st qd (tok ++ [y]) r E) (he : EscOk st esc) (htl : tok.length + (d :: r).length ≤ 90001) : ∃ n', n' < (d :: r).length ∧ RtI fr x E l0 n' ⟨[some (.ref x.q), some (.bool qd), some (.str (S esc) a4), nx, none], fr :: lexLed x u tb tp p (.str (S (lsT st)) a1) (.str (S (tok ++ [y])) a2) (.int ln a3) [] l0⟩ :=
  ⟨r.length, Nat.lt_succ_self _, _, _, _, r, [], [], p, u, tb, tp, a2, ln, a3, esc, a4, nx, rfl, .nil, hp, hr, rfl, .inl ⟨st, a1, rfl, hg, he⟩, by simp at htl ⊢; lia⟩
end
inductive RtN (fr : Addr × Ob) (x : Lx) (l0 : Led) (vs : Value → List (Option Value)) (r : T) (stv tv lv : Value) (σ' : Sg) : Prop
  | mk (p' : Nat) (u' tb' tp' a5 : Tok) (nc : T) (e : σ' = ⟨vs (.str (S nc) a5), fr :: lexLed x u' tb' tp' p' stv tv lv [] l0⟩) (h1 : p' ≤ x.b.length) (h2 : nc = r.take 1) (h3 : r.drop 1 = x.b.drop p')
inductive RtL (fr : Addr × Ob) (x : Lx) (l0 : Led) (vs : List (Option Value)) (u' tb' tp' : Tok) (p' : Nat) (stv tv : Value) (σ' : Sg) : Prop
  | mk (ln' : Int) (a3' : Tok) (e : σ' = ⟨vs, fr :: lexLed x u' tb' tp' p' stv tv (.int ln' a3') [] l0⟩)
theorem read_token_wc {c : Cx} {x : Lx} {E : List Ev} {vs} {l0 l : Led} {Q : Value → Sg → Prop} (hL : Lexed x E l0 l) (hd : 8 ≤ c.dp) (hu : 100 ≤ c.un) (H : ∀ v l1, LexOut x E l0 v l1 → Q v ⟨vs, l1⟩) : WC c ⟨vs, l⟩ (.call (.ref 803) ⟨[.ref x.q], []⟩) Q := by
  obtain ⟨hb, u, tb, tp, p, st, a2, ln, a3, pbv, pb, rfl, hpb, hp, hst⟩ := hL
  refine WC.mutCallB ["self"] ["quoted", "escapedstate", "nextchar", "result"] 7 90 ["self", "quoted", "escapedstate", "nextchar", "result"] [] ⟨⟨_, _, _, by rfl⟩, by rfl, by kernel_rfl⟩ (by walk_at "om") (by walk_at "om") ?_
  refine BW.of_eq (binds := [("self", .ref x.q)]) (by rfl) ?_
  refine ⟨[.ref x.q], by rfl, rfl, ?_⟩
  intro c' oL hw' hdp hun D hh
  show WL c' ⟨[some (.ref x.q), none, none, none, none], (c.L, oL) :: lexLed x u tb tp p st (.str (S []) a2) (.int ln a3) pbv l0⟩ _ _ _ _ _ _
  set_option tactic.hygienic true in walk_at "q"
  rename_i te
  refine WS.cut (RtO (c.L, oL) x E l0) ?_ ?_
  · refine WS.While (RtI (c.L, oL) x E l0) (pb ++ x.b.drop p).length ?_ ?_
    · refine ⟨st, false, [], _, pbv, pb, p, u, tb, tp, a2, ln, a3, tx " ", te, none, rfl, hpb, hp, rfl, rfl, ?_, ?_⟩
      · rcases hst with ⟨a1, rfl, hg⟩ | ⟨rfl, h1, h2⟩
        · exact .inl ⟨.sp, a1, rfl, hg, trivial⟩
        · exact .inr ⟨rfl, rfl, rfl, h1, h2⟩
      · have : pb.length ≤ 1 := by cases hpb <;> simp
        simp only [List.length_nil, List.length_append, List.length_drop]; lia
    · rintro n σ1 ⟨stv, qd, tok, r, pbv, pb, p, u, tb, tp, a2, ln, a3, esc, a4, nx, rfl, hpb, hp, hr, rfl, hcur, htl⟩
      refine WB.leaf (WP.kBool (WP.tbool (BR.tt (WLN.mk ?_))))
      intro _ _ _ _ _ _ _ _
      refine WL.cons (WS.cut (RtN (c.L, oL) x l0 (fun v => [some (.ref x.q), some (.bool qd), some (.str (S esc) a4), some v, none]) r stv (.str (S tok) a2) (.int ln a3)) ?_ ?_)
      · cases hpb with
        | nil =>
          walk_at "q"
          refine lxRead1 hb hp (by walk_at "om") (by walk_at "om") ?_
          intro t' tp'
          walk_at "q"
          refine ⟨min (p + 1) x.b.length, u, tb, tp', t', _, rfl, Nat.min_le_right _ _, ?_, ?_⟩
          · rw [hr]; rfl
          · rw [hr]
            show List.drop 1 (List.drop p x.b) = _
            rw [List.drop_drop]
            by_cases h : p + 1 ≤ x.b.length
            · rw [Nat.min_eq_left h]
            · rw [Nat.min_eq_right (by walk_at "om"), List.drop_of_length_le (Nat.le_refl _), List.drop_of_length_le (by walk_at "om")]
        | @one d t =>
          walk_at "q"
          apply WP.dqPop (xs := [])
          · walk_at "q_lset"
          · simp
          walk_at "q"
          refine ⟨p, u, tb, tp, t, _, rfl, hp, ?_, ?_⟩
          · rw [hr]; rfl
          · rw [hr]; simp
      · rintro σ2 ⟨p', u', tb', tp', a5, nc, rfl, hp', hnc, hr'⟩
        refine WL.cons (WS.cut (RtL (c.L, oL) x l0 [some (.ref x.q), some (.bool qd), some (.str (S esc) a4), some (.str (S nc) a5), none] u' tb' tp' p' stv (.str (S tok) a2)) ?_ ?_)
        · walk_at "q"
          refine ⟨fun _ => ?_, fun _ => ?_⟩
          · walk_at "q"
            exact ⟨_, _, rfl⟩
          · walk_at "q"
            exact ⟨_, _, rfl⟩
        · rintro σ3 ⟨ln', a3', rfl⟩
          rcases hcur with ⟨st, a1, rfl, hg, hesc⟩ | ⟨rfl, rfl, rfl, rfl, rfl⟩
          · induction hg using Go.casesOn with
            | sp_eof  =>
              replace hnc := hnc.trans (show List.take 1 [] = [] from rfl)
              subst hnc
              walk_at "q"
              exact ⟨_, _, _, _, _, p', u', tb', tp', _, _, _, _, _, _, rfl, .nil, hp', hr', .inr ⟨rfl, rfl, rfl, rfl, rfl⟩⟩
            | sp_ws hw hg =>
              have p1 := wf1 hw; have p2 := wf2 hw
              replace hnc := hnc.trans (show List.take 1 (_ :: _) = [_] from rfl)
              subst hnc
              walk_at "q"
              first | exact RtI.keep (st := .sp) hp' hr' hg trivial htl | exact RtI.add (st := .sp) hp' hr' hg trivial htl
            | sp_hash he hg =>
              replace hnc := hnc.trans (show List.take 1 (_ :: _) = [_] from rfl)
              subst hnc
              have hdl := drop_line hr'.symm
              obtain ⟨hd1, hd2⟩ := hdl
              walk_at "q"
              refine lxLine1 hb hr'.symm he (by walk_at "om") (by walk_at "om") ?_
              intro _ _ tp2
              walk_at "q"
              exact ⟨_, by simp; lia, _, _, _, _, [], [], _, u', tb', tp2, _, _, _, _, _, _, rfl, .nil, hd2, hd1, rfl, .inl ⟨.sp, _, rfl, hg, trivial⟩, by simp at htl ⊢; lia⟩
            | sp_esc hg =>
              replace hnc := hnc.trans (show List.take 1 (_ :: _) = [_] from rfl)
              subst hnc
              walk_at "q"
              first | exact RtI.keep (st := .es) hp' hr' hg rfl htl | exact RtI.add (st := .es) hp' hr' hg rfl htl
            | sp_pun hw hg =>
              have p1 := pf1 hw; have p2 := pf2 hw; have p3 := pf3 hw; have p4 := pf4 hw; have p5 := pf5 hw; have p6 := pf6 hw; have p7 := pf7 hw
              replace hnc := hnc.trans (show List.take 1 (_ :: _) = [_] from rfl)
              subst hnc
              walk_at "q"
              first | exact RtI.keep (st := .c) hp' hr' hg trivial htl | exact RtI.add (st := .c) hp' hr' hg trivial htl
            | sp_quo hw hg =>
              have p1 := qf1 hw; have p2 := qf2 hw; have p3 := qf3 hw; have p4 := qf4 hw; have p5 := qf5 hw; have p6 := qf6 hw; have p7 := qf7 hw
              replace hnc := hnc.trans (show List.take 1 (_ :: _) = [_] from rfl)
              subst hnc
              walk_at "q"
              first | exact RtI.keep (st := (.qt _)) hp' hr' hg trivial htl | exact RtI.add (st := (.qt _)) hp' hr' hg trivial htl
            | q_end hw hg =>
              rcases hw with rfl | rfl
              · replace hnc := hnc.trans (show List.take 1 (_ :: _) = [_] from rfl)
                subst hnc
                walk_at "q"
                first | exact RtI.keep (st := .a) hp' hr' hg trivial htl | exact RtI.add (st := .a) hp' hr' hg trivial htl
              · replace hnc := hnc.trans (show List.take 1 (_ :: _) = [_] from rfl)
                subst hnc
                walk_at "q"
                first | exact RtI.keep (st := .a) hp' hr' hg trivial htl | exact RtI.add (st := .a) hp' hr' hg trivial htl
            | q_ch hw hx hx2 hg =>
              rcases hw with rfl | rfl
              · replace hnc := hnc.trans (show List.take 1 (_ :: _) = [_] from rfl)
                subst hnc
                walk_at "q"
                refine BR.f (decide_eq_false (fun h => hx (List.cons.inj h).1)) ?_
                walk_at "q"
                refine ⟨fun _ => ?_, fun _ => ?_⟩
                · walk_at "q"
                  first | exact RtI.keep (st := (.qt 39)) hp' hr' hg trivial htl | exact RtI.add (st := (.qt 39)) hp' hr' hg trivial htl
                · walk_at "q"
                  first | exact RtI.keep (st := (.qt 39)) hp' hr' hg trivial htl | exact RtI.add (st := (.qt 39)) hp' hr' hg trivial htl
              · replace hnc := hnc.trans (show List.take 1 (_ :: _) = [_] from rfl)
                subst hnc
                walk_at "q"
                refine BR.f (decide_eq_false (fun h => hx (List.cons.inj h).1)) ?_
                walk_at "q"
                refine BR.f (decide_eq_false (fun h => absurd (hx2 (List.mem_singleton.mp h)) (by decide))) ?_
                walk_at "q"
                first | exact RtI.keep (st := (.qt 34)) hp' hr' hg trivial htl | exact RtI.add (st := (.qt 34)) hp' hr' hg trivial htl
            | q_esc hg =>
              replace hnc := hnc.trans (show List.take 1 (_ :: _) = [_] from rfl)
              subst hnc
              walk_at "q"
              first | exact RtI.keep (st := .ed) hp' hr' hg rfl htl | exact RtI.add (st := .ed) hp' hr' hg rfl htl
            | es hg =>
              have hesc' : esc = [97] := hesc
              subst hesc'
              replace hnc := hnc.trans (show List.take 1 (_ :: _) = [_] from rfl)
              subst hnc
              walk_at "q"
              first | exact RtI.keep (st := .a) hp' hr' hg trivial htl | exact RtI.add (st := .a) hp' hr' hg trivial htl
            | ed hx hg =>
              have hesc' : esc = [34] := hesc
              subst hesc'
              rcases hx with rfl | rfl
              all_goals (replace hnc := hnc.trans (show List.take 1 (_ :: _) = [_] from rfl); subst hnc; walk_at "q"; first | exact RtI.keep (st := (.qt 34)) hp' hr' hg trivial htl | exact RtI.add (st := (.qt 34)) hp' hr' hg trivial htl)
            | @a_ws _ _ tok _ _ hw hwd hg =>
              have hne : tok ≠ [] := (Tell.word (E' := []) hwd rfl).ne
              have p1 := wf1 hw; have p2 := wf2 hw
              replace hnc := hnc.trans (show List.take 1 (_ :: _) = [_] from rfl)
              subst hnc
              walk_at "q"
              refine BR.t (by simp [hne]) ?_
              walk_at "q"
              exact ⟨_, _, _, _, _, p', u', tb', tp', _, _, _, _, _, _, rfl, .nil, hp', hr', .inl ⟨_, (.word hwd rfl), (.inl ⟨_, rfl, hg⟩)⟩⟩
            | @a_hash _ _ tok _ _ he hwd hg =>
              have hne : tok ≠ [] := (Tell.word (E' := []) hwd rfl).ne
              replace hnc := hnc.trans (show List.take 1 (_ :: _) = [_] from rfl)
              subst hnc
              have hdl := drop_line hr'.symm
              obtain ⟨hd1, hd2⟩ := hdl
              walk_at "q"
              refine lxLine1 hb hr'.symm he (by walk_at "om") (by walk_at "om") ?_
              intro _ _ tp2
              walk_at "q"
              refine BR.t (by simp [hne]) ?_
              walk_at "q"
              exact ⟨_, _, _, _, _, _, u', tb', tp2, _, _, _, _, _, _, rfl, .nil, hd2, hd1, .inl ⟨_, .word hwd rfl, .inl ⟨_, rfl, hg⟩⟩⟩
            | a_quo hw hg =>
              have p1 := qf1 hw; have p2 := qf2 hw; have p3 := qf3 hw; have p4 := qf4 hw; have p5 := qf5 hw; have p6 := qf6 hw; have p7 := qf7 hw
              replace hnc := hnc.trans (show List.take 1 (_ :: _) = [_] from rfl)
              subst hnc
              walk_at "q"
              first | exact RtI.keep (st := (.qt _)) hp' hr' hg trivial htl | exact RtI.add (st := (.qt _)) hp' hr' hg trivial htl
            | a_esc hg =>
              replace hnc := hnc.trans (show List.take 1 (_ :: _) = [_] from rfl)
              subst hnc
              walk_at "q"
              first | exact RtI.keep (st := .es) hp' hr' hg rfl htl | exact RtI.add (st := .es) hp' hr' hg rfl htl
            | @a_pun _ _ tok _ _ hw hwd hg =>
              have hne : tok ≠ [] := (Tell.word (E' := []) hwd rfl).ne
              have p1 := pf1 hw; have p2 := pf2 hw; have p3 := pf3 hw; have p4 := pf4 hw; have p5 := pf5 hw; have p6 := pf6 hw; have p7 := pf7 hw
              replace hnc := hnc.trans (show List.take 1 (_ :: _) = [_] from rfl)
              subst hnc
              walk_at "q"
              refine BR.t (by simp [hne]) ?_
              walk_at "q"
              exact ⟨_, _, _, _, _, p', u', tb', tp', _, _, _, _, _, _, rfl, .one, hp', (congrArg (List.cons _) hr'), .inl ⟨_, (.word hwd rfl), (.inl ⟨_, rfl, hg⟩)⟩⟩
            | @c_eof tok hrun =>
              have hne : tok ≠ [] := hrun.1
              replace hnc := hnc.trans (show List.take 1 [] = [] from rfl)
              subst hnc
              walk_at "q"
              exact ⟨_, _, _, _, _, p', u', tb', tp', _, _, _, _, _, _, rfl, .nil, hp', hr', .inl ⟨_, (.run (E' := []) hrun (by simp)), (.inr ⟨rfl, rfl, rfl⟩)⟩⟩
            | @c_ws _ tok _ _ hw hrun hg =>
              have hne : tok ≠ [] := hrun.1
              have p1 := wf1 hw; have p2 := wf2 hw
              replace hnc := hnc.trans (show List.take 1 (_ :: _) = [_] from rfl)
              subst hnc
              walk_at "q"
              refine BR.t (by simp [hne]) ?_
              walk_at "q"
              exact ⟨_, _, _, _, _, p', u', tb', tp', _, _, _, _, _, _, rfl, .nil, hp', hr', .inl ⟨_, (.run hrun rfl), (.inl ⟨_, rfl, hg⟩)⟩⟩
            | @c_hash _ tok _ _ he hrun hg =>
              have hne : tok ≠ [] := hrun.1
              replace hnc := hnc.trans (show List.take 1 (_ :: _) = [_] from rfl)
              subst hnc
              have hdl := drop_line hr'.symm
              obtain ⟨hd1, hd2⟩ := hdl
              walk_at "q"
              refine lxLine1 hb hr'.symm he (by walk_at "om") (by walk_at "om") ?_
              intro _ _ tp2
              walk_at "q"
              refine BR.t (by simp [hne]) ?_
              walk_at "q"
              exact ⟨_, _, _, _, _, _, u', tb', tp2, _, _, _, _, _, _, rfl, .nil, hd2, hd1, .inl ⟨_, .run hrun rfl, .inl ⟨_, rfl, hg⟩⟩⟩
            | @c_pun _ tok _ _ hw hg =>
              have p1 := pf1 hw; have p2 := pf2 hw; have p3 := pf3 hw; have p4 := pf4 hw; have p5 := pf5 hw; have p6 := pf6 hw; have p7 := pf7 hw
              replace hnc := hnc.trans (show List.take 1 (_ :: _) = [_] from rfl)
              subst hnc
              walk_at "q"
              first | exact RtI.keep (st := .c) hp' hr' hg trivial htl | exact RtI.add (st := .c) hp' hr' hg trivial htl
            | @c_oth _ tok _ _ hw hrun hg =>
              have hne : tok ≠ [] := hrun.1
              rcases hw with hw | rfl
              · have p1 := qf1 hw; have p2 := qf2 hw; have p3 := qf3 hw; have p4 := qf4 hw; have p5 := qf5 hw; have p6 := qf6 hw; have p7 := qf7 hw
                replace hnc := hnc.trans (show List.take 1 (_ :: _) = [_] from rfl)
                subst hnc
                walk_at "q"
                exact ⟨_, _, _, _, _, p', u', tb', tp', _, _, _, _, _, _, rfl, .one, hp', (congrArg (List.cons _) hr'), .inl ⟨_, (.run hrun rfl), (.inl ⟨_, rfl, hg⟩)⟩⟩
              · replace hnc := hnc.trans (show List.take 1 (_ :: _) = [_] from rfl)
                subst hnc
                walk_at "q"
                exact ⟨_, _, _, _, _, p', u', tb', tp', _, _, _, _, _, _, rfl, .one, hp', (congrArg (List.cons _) hr'), .inl ⟨_, (.run hrun rfl), (.inl ⟨_, rfl, hg⟩)⟩⟩
          · subst hnc
            walk_at "q"
            exact ⟨_, _, _, _, _, p', u', tb', tp', _, _, _, _, _, _, rfl, .nil, hp', hr', .inr ⟨rfl, rfl, rfl, rfl, rfl⟩⟩
  · rintro σ1 ⟨stv, qd, tok, pbv, pb, p, u, tb, tp, a2, ln, a3, x2, x3, r, rfl, hpb, hp, hr, hout⟩
    rcases hout with ⟨E', htell, hnext⟩ | ⟨rfl, rfl, rfl, hr0, rfl⟩
    · have hne := htell.ne
      walk_at "q"
      refine ⟨fun _ => ?_, fun _ => ?_⟩
      · walk_at "q"
        exact ⟨_, .refl _, H _ _ (.tok htell ⟨hb, _, _, _, _, _, _, _, _, _, _, rfl, hpb, hp, hr ▸ hnext⟩)⟩
      · walk_at "q"
        refine BR.f (decide_eq_false hne) ?_
        walk_at "q"
        exact ⟨_, .refl _, H _ _ (.tok htell ⟨hb, _, _, _, _, _, _, _, _, _, _, rfl, hpb, hp, hr ▸ hnext⟩)⟩
    · walk_at "q"
      exact ⟨_, .refl _, H _ _ (.eof rfl ⟨hb, _, _, _, _, _, _, _, _, _, _, rfl, hpb, hp, .inr ⟨rfl, hr ▸ hr0, rfl⟩⟩)⟩
end Mine
end
section
set_option genInjectivity false
set_option genSizeOf false
set_option genCtorIdx false
set_option bootstrap.genMatcherCode false
open PySem PySem.W PyProof.Rows PySem.Calls PySem.Spec
set_option maxRecDepth 100000
set_option maxHeartbeats 4000000
set_option tactic.hygienic false
namespace Mine
section
variable {c : Cx} {σ : Sg} {Q : Value → Sg → Prop}
theorem Lexed.front {x : Lx} {E : List Ev} {l0 l : Led} (a : Addr × Ob) (h : Lexed x E l0 l) : ∃ l', (a :: l).Perm l' ∧ Lexed x E (a :: l0) l' := by
  obtain ⟨hb, u, tb, tp, p, st, a2, ln, a3, pbv, pb, rfl, hpb, hp, hst⟩ := h
  exact ⟨lexLed x u tb tp p st (.str (S []) a2) (.int ln a3) pbv (a :: l0), (List.perm_middle (l₁ := [_, _, _, _, _, _, _])).symm, hb, u, tb, tp, p, st, a2, ln, a3, pbv, pb, rfl, hpb, hp, hst⟩
theorem Lexed.behind {x : Lx} {E : List Ev} {l0 l : Led} {a : Addr × Ob} (h : Lexed x E (a :: l0) l) : ∃ l', l.Perm (a :: l') ∧ Lexed x E l0 l' := by
  obtain ⟨hb, u, tb, tp, p, st, a2, ln, a3, pbv, pb, rfl, hpb, hp, hst⟩ := h
  exact ⟨lexLed x u tb tp p st (.str (S []) a2) (.int ln a3) pbv l0, List.perm_middle (l₁ := [_, _, _, _, _, _, _]), hb, u, tb, tp, p, st, a2, ln, a3, pbv, pb, rfl, hpb, hp, hst⟩
theorem LexOut.behind {x : Lx} {E : List Ev} {l0 l : Led} {v : Value} {a : Addr × Ob} (h : LexOut x E (a :: l0) v l) : ∃ l', l.Perm (a :: l') ∧ LexOut x E l0 v l' := by
  cases h with
  | eof e h => obtain ⟨l', h1, h2⟩ := h.behind; exact ⟨l', h1, .eof e h2⟩
  | tok e h => obtain ⟨l', h1, h2⟩ := h.behind; exact ⟨l', h1, .tok e h2⟩
theorem WC.lexBehind {x : Lx} {E : List Ev} {vs} {l0 l : Led} {a : Addr × Ob} {k : Code} (hL : Lexed x E l0 l) (h : ∀ l', Lexed x E (a :: l0) l' → ∀ Q' : Value → Sg → Prop, (∀ v l1, LexOut x E (a :: l0) v l1 → Q' v ⟨vs, l1⟩) → WC c ⟨vs, l'⟩ k Q') (H : ∀ v l1, LexOut x E l0 v l1 → Q v ⟨vs, a :: l1⟩) : WC c ⟨vs, a :: l⟩ k Q := by
  obtain ⟨l', hp, hL'⟩ := hL.front a
  refine WC.perm hp (WC.back (h l' hL' _ fun v l1 ho => ?_))
  obtain ⟨l2, h1, h2⟩ := ho.behind
  exact ⟨_, h1, H v l2 h2⟩
end
end Mine
end
section
open PySem PySem.W PyProof.Rows PySem.Calls PySem.Spec
namespace Mine
theorem get_token_wc {c : Cx} {x : Lx} {E : List Ev} {vs} {l0 l : Led} {Q : Value → Sg → Prop} (hL : Lexed x E l0 l) (hd : 10 ≤ c.dp) (hu : 120 ≤ c.un) (H : ∀ v l1, LexOut x E l0 v l1 → Q v ⟨vs, l1⟩) : WC c ⟨vs, l⟩ (.call (.ref 796) ⟨[.ref x.q], []⟩) Q := by
  refine WC.mutCallB ["self"] ["tok", "raw", "spec", "newfile", "newstream"] 9 110 ["self", "tok", "raw", "spec", "newfile", "newstream"] [] ⟨⟨_, _, _, by rfl⟩, by rfl, by kernel_rfl⟩ (by walk_at "om") (by walk_at "om") ?_
  refine BW.of_eq (binds := [("self", .ref x.q)]) (by rfl) ?_
  refine ⟨[.ref x.q], by rfl, rfl, ?_⟩
  intro c' oL hw' hdp hun D hh
  show WL c' ⟨[some (.ref x.q), none, none, none, none, none], (c.L, oL) :: l⟩ _ _ _ _ _ _
  have hL' := hL
  obtain ⟨hb, u, tb, tp, p, st, a2, ln, a3, pbv, pb, rfl, hpb, hp, hst⟩ := hL'
  unfold lexLed
  walk_at "q"
  refine WC.lexBehind hL (fun l' h Q' H' => read_token_wc h (by walk_at "om") (by walk_at "om") H') ?_
  intro v l1 ho
  have K := H v l1 ho
  cases ho with
  | eof hE hL1 =>
    obtain ⟨hb, u, tb, tp, p, st, a2, ln, a3, pbv, pb, rfl, hpb, hp, hst⟩ := hL1
    unfold lexLed at K ⊢
    walk_at "q"
    refine WS.While (fun n σ' => n = 0 ∧ σ' = ⟨[some (.ref x.q), none, some .none, none, none, none], (c.L, oL) :: lexLed x u tb tp p st (.str (S []) a2) (.int ln a3) pbv l0⟩) 0 ⟨rfl, rfl⟩ ?_
    rintro n σ1 ⟨rfl, rfl⟩
    unfold lexLed
    walk_at "q"
    exact ⟨_, .refl _, K⟩
  | @tok tok t E' _ htell hL1 =>
    have hne := htell.ne
    obtain ⟨hb, u, tb, tp, p, st, a2, ln, a3, pbv, pb, rfl, hpb, hp, hst⟩ := hL1
    unfold lexLed at K ⊢
    walk_at "q"
    refine WS.While (fun n σ' => n = 0 ∧ σ' = ⟨[some (.ref x.q), none, some (.str (S tok) t), none, none, none], (c.L, oL) :: lexLed x u tb tp p st (.str (S []) a2) (.int ln a3) pbv l0⟩) 0 ⟨rfl, rfl⟩ ?_
    rintro n σ1 ⟨rfl, rfl⟩
    unfold lexLed
    walk_at "q"
    exact ⟨_, .refl _, K⟩
end Mine
end
section
set_option genInjectivity false
set_option genSizeOf false
set_option genCtorIdx false
set_option bootstrap.genMatcherCode false
open PySem PySem.W PyProof.Rows PySem.Calls PySem.Spec
set_option maxRecDepth 100000
set_option maxHeartbeats 4000000
set_option tactic.hygienic false
namespace Mine
section
variable {c : Cx} {σ : Sg} {env : Env} {pos : Pos} {Q : Value → Sg → Prop} {qn qb qc : Sg → Prop} {qr : Value → Sg → Prop} {t u : Tok}
theorem WP.sLast {value slice} {b : T} {d : Nat} (H : ∀ t', Q (.str (S [d]) t') σ) : WP c σ (subscriptTail value slice (.str (S (b ++ [d])) t) (.int (-1) u)) Q := .of0 fun _ _ _ _ Z _ => by
  refine wp_sub rfl (typeIs_str _ _ _) PySem.F.slot_str_getitem.lookup (PyProof.Rows.getItem_str (c := d) (by decide) ?_ ⟨_, _, _, rfl, Z, H _⟩)
  have e : seqIndex? (-1) (S (b ++ [d])).length = some b.length := by
    rw [S_len]
    unfold seqIndex?
    simp
    lia
  rw [e]
  simp [S]
theorem ItOk.strA {l : T} {t : Tok} (ha : l.all (· < 128) = true) : ItOk c (strIt "str_ascii_iterator" (S l) t) l.length (fun i v => Ex2 fun d u => l[i]? = some d ∧ v = .str (S [d]) u) (fun _ => True) where
  next := fun i A h tk I σ R Z p₀ hk hi => by
    have hit : h.IsStrIter I "str_ascii_iterator" (S l) t i := Z.get (a := I) .head
    refine wpAny_pyNext_ascii_item hit (c := l[i]) (by simp [S, hi]) fun h' hit' hs' => ?_
    exact ⟨_, rfl, ⟨l[i], _, by simp [hi], rfl⟩, h', _, _, rfl, Z.step hs' hit', rfl⟩
  stop := fun A h tk I σ R Z p₀ hk => by
    have hit : h.IsStrIter I "str_ascii_iterator" (S l) t l.length := Z.get (a := I) .head
    exact wpAny_pyNext_ascii_end R.hd hit (by simp [S]) fun h' he' => ⟨rfl, h', tk, σ, rfl, Z.drop he', rfl⟩
  own := fun i o ho => ⟨_, ho.1, by decide⟩
theorem IterOf.strA {l : T} {t : Tok} (ha : l.all (· < 128) = true) : IterOf c σ (.str (S l) t) (strIt "str_ascii_iterator" (S l) t) :=
  ⟨fun _ h _ _ Z _ => wpAny_pyIter_ascii (by simpa [S] using ha) ⟨_, rfl, _, _, _, rfl, Z.push _ (strIt "str_ascii_iterator" (S l) t 0) ⟨rfl, rfl⟩ rfl, rfl⟩⟩
theorem WS.forS {target iter body} (H : WP c σ (eval iter env) (fun v σ₁ => Ex3 fun (l : T) (t : Tok) (Inv : T → Sg → Prop) => A5 (v = .str (S l) t) (l.all (· < 128) = true) (Inv l σ₁) ((∀ d rest u p I σ', Inv (d :: rest) σ' → WP c ⟨σ'.vs, (I, p) :: σ'.news⟩ (assign target env (.str (S [d]) u)) (fun _ σ₂ => WLN c σ₂ env body (EndTurn I p (Inv rest)) qr qn (EndTurn I p (Inv rest))))) ((∀ σ', Inv [] σ' → qn σ')))) (hfs : ∀ x, foldedSetIterable iter env x = Pure.pure x := by intro _; rfl) :
    WS c σ env (.For target iter body [] pos) qn qr qb qc := by
  refine .forIt (H.mono ?_) hfs
  rintro v σ₁ ⟨l, t, Inv, rfl, ha, h0, ht, hd⟩
  refine ⟨strIt "str_ascii_iterator" (S l) t, l.length, fun i v => Ex2 fun d u => l[i]? = some d ∧ v = .str (S [d]) u, fun _ => True, fun i => Inv (l.drop i), .strA ha, ⟨.strA ha, fun _ _ _ => trivial, fun i v I σ' hi hv hI => ?_, fun σ' hI => hd σ' (by rw [List.drop_length] at hI; exact hI)⟩, h0⟩
  obtain ⟨d, u, hv, rfl⟩ := hv
  have e : l.drop i = d :: l.drop (i + 1) := by
    obtain ⟨h1, h2⟩ := List.getElem?_eq_some_iff.mp hv
    rw [List.drop_eq_getElem_cons h1, h2]
  rw [e] at hI
  exact ht d (l.drop (i + 1)) u _ I σ' hI
end
end Mine
end
section
open PySem PySem.W PyProof.Rows PySem.Calls PySem.Spec
namespace Mine
inductive WV : Option T → Value → Prop
  | none : WV none .none
  | some {w : T} {t : Tok} : WV (some w) (.str (S w) t)
theorem punc_small {tok : T} (h : ∀ y ∈ tok, Punc y) : tok.all (· < 128) = true := by
  rw [List.all_eq_true]
  intro y hy
  rcases h y hy with e | e | e <;> rw [e] <;> decide
theorem lexer_wcx {c : Cx} {σ : Sg} {b : T} {t : Tok} {Q : Value → Sg → Prop} (hb : b.length ≤ 90000) (hd : 12 ≤ c.dp) (hu : 130 ≤ c.un) (H : ∀ (x : Lx) u tb tp a1 a2 a3, x.b = b → Q (.ref x.q) ⟨σ.vs, lexLed x u tb tp 0 (.str (S [32]) a1) (.str (S []) a2) (.int 1 a3) [] σ.news⟩) : WC c σ (.call (.ref 879) ⟨[.str (S b) t], []⟩) Q := by
  refine WC.back (lexer_wc hb hd hu ?_)
  intro q dx qi di qp qs qc u tb tp ts a1 a2 a3
  exact ⟨_, (List.perm_append_comm (l₁ := [_, _, _]) (l₂ := [_, _, _, _])).append_right _, H ⟨q, dx, qi, di, qp, qs, qc, b, ts⟩ u tb tp a1 a2 a3 rfl⟩
inductive ReadA (v0 : Value) (x : Lx) (Rr : Addr) (fin : RS) : Nat → Sg → Prop
  | mk (rows : List T) (done : List Value) (here : T) (th : Tok) (w : Option T) (wv tv : Value) (sg : Option Value) (l1 : Led) (E : List Ev) (h1 : Strs done rows) (h2 : WV w wv) (h3 : LexOut x E [] tv l1) (h4 : Steps ⟨rows, here, w⟩ E fin) : ReadA v0 x Rr fin E.length ⟨[some v0, some (.ref x.q), some (.ref Rr), some (.str (S here) th), some wv, some tv, sg], (Rr, lst done) :: l1⟩
inductive ReadB (v0 : Value) (x : Lx) (Rr : Addr) (fin : RS) (rows : List T) (done : List Value) (here : T) (th : Tok) (sg : Option Value) (l1 : Led) (n : Nat) : Sg → Prop
  | mk (tok2 : T) (t2 : Tok) (w2 : Option T) (wv2 : Value) (E2 : List Ev) (h1 : ∀ y ∈ tok2, Punc y) (h2 : WV w2 wv2) (h3 : Lexed x E2 [] l1) (h4 : E2.length < n) (h5 : Steps ⟨rows, here, w2⟩ (tok2.map .sign ++ E2) fin) : ReadB v0 x Rr fin rows done here th sg l1 n ⟨[some v0, some (.ref x.q), some (.ref Rr), some (.str (S here) th), some wv2, some (.str (S tok2) t2), sg], (Rr, lst done) :: l1⟩
inductive ReadC (v0 : Value) (x : Lx) (Rr : Addr) (fin : RS) (tv : Value) (l1 : Led) (E2 : List Ev) (rest : T) : Sg → Prop
  | mk (rows : List T) (done : List Value) (here : T) (th : Tok) (w : Option T) (wv : Value) (sg : Option Value) (h1 : Strs done rows) (h2 : WV w wv) (h3 : Steps ⟨rows, here, w⟩ (rest.map .sign ++ E2) fin) : ReadC v0 x Rr fin tv l1 E2 rest ⟨[some v0, some (.ref x.q), some (.ref Rr), some (.str (S here) th), some wv, some tv, sg], (Rr, lst done) :: l1⟩
theorem read_wc {c : Cx} {σ : Sg} {b : T} {t : Tok} {E : List Ev} {R : List T} {h0 : T} {w0 : Option T} {Q : Value → Sg → Prop} (hb : b.length ≤ 90000) (hg : Go .sp false [] b E) (hs : Steps ⟨[], [], some []⟩ E ⟨R, h0, w0⟩) (hd : 25 ≤ c.dp) (hu : 250 ≤ c.un)
    (H : ∀ d ys, Strs ys R → Q (.ref d) ⟨σ.vs, (d, lst ys) :: σ.news⟩) : WC c σ (.call (.ref 886) ⟨[.str (S b) t], []⟩) Q := by
  refine WC.pureCall ["text"] ["lexer", "rows", "here", "word", "token", "sign"] [.str (S b) t] 20 200 ["text", "lexer", "rows", "here", "word", "token", "sign"] [some (.str (S b) t), none, none, none, none, none, none] [("_law_lexer", .ref 879), ("join_posixpath", .ref 133), ("dirname_posixpath", .ref 147)] ⟨⟨_, _, _, by rfl⟩, by rfl, by kernel_rfl⟩ (.of_eq (by rfl)) (by walk_at "om") (by walk_at "om") ?_
  intro c' hw' hdp hun D hkeep hn
  walk_at "q"
  refine lexer_wcx hb (by walk_at "om") (by walk_at "om") ?_
  rintro x u tb tp a1 a2 a3 rfl
  set_option tactic.hygienic true in walk_at "q"
  rename_i Rr th tw
  have hL : Lexed x E [] (lexLed x u tb tp 0 (.str (S [32]) a1) (.str (S []) a2) (.int 1 a3) [] []) := ⟨hb, u, tb, tp, 0, _, a2, 1, a3, [], [], rfl, .nil, Nat.zero_le _, .inl ⟨a1, rfl, by simpa using hg⟩⟩
  refine WC.lexBehind (a := (Rr, lst [])) hL (fun l' h Q' H' => get_token_wc h (by walk_at "om") (by walk_at "om") H') ?_
  intro v l1 ho
  walk_at "q"
  refine WS.While (ReadA (.str (S x.b) t) x Rr ⟨R, h0, w0⟩) E.length ?_ ?_
  · exact .mk [] [] (tx "") th (some (tx "")) _ v none l1 E .nil .some ho hs
  · intro n σ1 K
    induction K with | mk rows done here th w wv tv sg l1 E hdone hwv ho hst => ?_
    walk_at "q"
    cases ho with
    | eof hE hL1 =>
      subst hE
      cases hst
      refine BR.f (by rfl) ?_
      walk_at "q"
      exact ⟨[(Rr, lst done)], .cons_cons _ (List.nil_sublist _), H _ _ hdone⟩
    | @tok tok tt E' _ htell hL1 =>
      refine BR.t (by rfl) (WLN.mk ?_)
      intro _ _ _ _ _ _ _ _
      refine WL.cons (WS.cut (ReadB (.str (S x.b) t) x Rr ⟨R, h0, w0⟩ rows done here th sg l1 E.length) ?_ ?_)
      · walk_at "q"
        cases htell with
        | word hwd hE =>
          subst hE
          obtain ⟨bb, d, rfl, hnp⟩ := hwd
          refine WP.sLast ?_
          intro _
          walk_at "q"
          have hno : d ∉ tx "{,}" := fun h => hnp (by
            have h' : d ∈ [123, 44, 125] := h
            simpa [Punc] using h')
          refine BR.t (by simp [hno]) ?_
          walk_at "q"
          cases hst with
          | cons h1 h2 =>
            cases h1
            exact .mk [] _ (some (bb ++ [d])) _ E' (fun _ h => nomatch h) .some hL1 (by simp) h2
        | run hrun hE =>
          subst hE
          obtain ⟨bb, d, rfl⟩ : ∃ bb d, tok = bb ++ [d] := ⟨tok.dropLast, tok.getLast hrun.1, (List.dropLast_concat_getLast hrun.1).symm⟩
          have hp : Punc d := hrun.2 d (by simp)
          obtain ⟨p1, p2, p3, p4, p5, p6, p7⟩ := punc_facts hp
          refine WP.sLast ?_
          intro _
          walk_at "q"
          exact .mk (bb ++ [d]) tt w wv E' hrun.2 hwv hL1 (by simp; lia) hst
      · intro σ2 K
        induction K with | mk tok2 t2 w2 wv2 E2 hpn hwv2 hL2 hlen hst2 => ?_
        refine WL.cons (WS.cut (ReadC (.str (S x.b) t) x Rr ⟨R, h0, w0⟩ (.str (S tok2) t2) l1 E2 []) ?_ ?_)
        · refine WS.forS ?_
          walk_at "q"
          refine ⟨tok2, t2, ReadC (.str (S x.b) t) x Rr ⟨R, h0, w0⟩ (.str (S tok2) t2) l1 E2, rfl, punc_small hpn, .mk rows done here th w2 wv2 sg hdone hwv2 hst2, ?_, ?_⟩
          · intro d rest u' p I σ3 K
            induction K with | mk rows done here th w wv sg hdone hwv hst => ?_
            dsimp only
            have hdl := hdone.len
            cases hst with
            | cons h1 h2 =>
              cases h1 with
              | down hl1 hl2 =>
                cases hwv
                walk_at "q"
                refine WC.drop (join_wc (by walk_at "om") (by walk_at "om") (by walk_at "om") (by walk_at "om") (fun u l => ⟨_, List.sublist_append_right _ _, ?_⟩))
                walk_at "q"
                exact .mk ((Rr, lst done) :: l1) (.refl _) (.mk _ _ _ _ _ _ _ hdone .some h2)
              | next hl1 hl2 hl3 =>
                cases hwv with
                | none =>
                  walk_at "q"
                  exact .mk ((Rr, lst done) :: l1) (.refl _) (.mk _ _ _ _ _ _ _ hdone .none h2)
                | some =>
                  have hl4 := hl2 _ rfl
                  walk_at "q"
                  refine WC.drop (join_wc (by walk_at "om") (by walk_at "om") (by walk_at "om") (by walk_at "om") (fun u l => ⟨_, List.sublist_append_right _ _, ?_⟩))
                  walk_at "q"
                  exact .mk ((Rr, lst _) :: l1) (.refl _) (.mk _ _ _ _ _ _ _ (hdone.snoc _ _) .none h2)
              | up hsp hl1 hl2 hl3 =>
                cases hwv with
                | none =>
                  walk_at "q"
                  refine dirname_wc hsp (by walk_at "om") (by walk_at "om") (by walk_at "om") ?_
                  intro _
                  walk_at "q"
                  exact .mk ((Rr, lst done) :: l1) (.refl _) (.mk _ _ _ _ _ _ _ hdone .none h2)
                | some =>
                  have hl4 := hl2 _ rfl
                  walk_at "q"
                  refine WC.drop (join_wc (by walk_at "om") (by walk_at "om") (by walk_at "om") (by walk_at "om") (fun u l => ⟨_, List.sublist_append_right _ _, ?_⟩))
                  walk_at "q"
                  refine dirname_wc hsp (by walk_at "om") (by walk_at "om") (by walk_at "om") ?_
                  intro _
                  walk_at "q"
                  exact .mk ((Rr, lst _) :: l1) (.refl _) (.mk _ _ _ _ _ _ _ (hdone.snoc _ _) .none h2)
          · exact fun _ h => h
        · intro σ3 K
          induction K with | mk rows done here th w wv sg hdone hwv hst => ?_
          have hL3 := hL2
          obtain ⟨_, u3, tb3, tp3, p3, st3, a23, ln3, a33, pbv3, pb3, rfl, _, _, _⟩ := hL3
          walk_at "q"
          refine WC.lexBehind (a := (Rr, lst done)) hL2 (fun l' h Q' H' => get_token_wc h (by walk_at "om") (by walk_at "om") H') ?_
          intro v l4 ho
          walk_at "q"
          exact ⟨E2.length, hlen, .mk rows done here th w wv v sg l4 E2 hdone hwv ho hst⟩
end Mine
end
section
open PySem PySem.W PyProof.Rows PySem.Calls PySem.Spec
namespace Mine
inductive CpA (c' : Cx) (L0 : Led) (ts : List T) (rest acc : List Value) (l : Led) : Prop
  | mk (h0 : ∀ q ∈ L0, q ∈ l) (done restT : List T) (h1 : ts = done ++ restT) (h2 : Strs rest restT) (h3 : RowsK c' l acc (done.map (splitT 47)))
theorem CpA.base {c' : Cx} {L0 : Led} {ts : List T} {rest acc : List Value} {l : Led} : CpA c' L0 ts rest acc l → ∀ q ∈ L0, q ∈ l := fun ⟨h, _, _, _, _, _⟩ => h
inductive CpB (B : Led) (rest : List Value) (l : Led) : Prop
  | mk (e : l = B) (restT : List T) (h1 : ∀ p ∈ restT, p.length ≤ 2000 ∧ p[0]? ≠ some 47) (h2 : Strs rest restT)
theorem CpB.eq {B : Led} {rest : List Value} {l : Led} : CpB B rest l → l = B := fun ⟨h, _, _, _⟩ => h
inductive CpC (c' : Cx) (L0 : Led) (SP : Addr) (acc1 : List Value) (ts : List T) (rest acc : List Value) (l : Led) : Prop
  | mk (h0 : ∀ q ∈ L0, q ∈ l) (hS : (SP, lst acc1) ∈ l) (done restT : List T) (h1 : ts = done ++ restT) (h2 : RowsK c' l rest (restT.map (splitT 47))) (h3 : RowsK c' l acc (done.map comps))
theorem CpC.sp {c' : Cx} {L0 : Led} {SP : Addr} {acc1 : List Value} {ts : List T} {rest acc : List Value} {l : Led} : CpC c' L0 SP acc1 ts rest acc l → (SP, lst acc1) ∈ l := fun ⟨_, h, _, _, _, _, _⟩ => h
inductive CpD (B : Led) (a : T) (rest2 acc2 : List Value) (lx : Led) : Prop
  | mk (e : lx = B) (dn2 rt2 : List T) (h1 : splitT 47 a = dn2 ++ rt2) (h2 : Strs rest2 rt2) (h3 : Strs acc2 (dn2.filter keepC))
theorem CpD.eq {B : Led} {a : T} {rest2 acc2 : List Value} {lx : Led} : CpD B a rest2 acc2 lx → lx = B := fun ⟨h, _, _, _, _, _⟩ => h
theorem commonpath_wc {c : Cx} {σ : Sg} {l : Addr} {xs : List Value} {ts : List T} {P : List T} {Q : Value → Sg → Prop} (hl : Kn c σ l (lst xs)) (hs : Strs xs ts) (hne : ts ≠ []) (hlen : ts.length ≤ 500) (hsz : ∀ p ∈ ts, p.length ≤ 2000 ∧ p[0]? ≠ some 47) (hP : Stem (ts.map comps) P) (hd : 10 ≤ c.dp) (hu : 150 ≤ c.un)
    (H : ∀ u, Q (.str (S (joinT [47] P)) u) σ) : WC c σ (.call (.ref 152) ⟨[.ref l], []⟩) Q := by
  have hxl := hs.len
  obtain ⟨x0, t0, xs', hxe⟩ : ∃ x0 t0 xs', xs = .str (S x0) t0 :: xs' := by
    cases hs with
    | nil => exact absurd rfl hne
    | cons h => exact ⟨_, _, _, rfl⟩
  refine WC.cellCall "paths" "sep" "curdir" (.ref l) ["split_paths", "isabs", "c", "s1", "s2", "common", "i", "prefix"] 8 120 ["paths", "split_paths", "isabs", "c", "s1", "s2", "common", "i", "prefix"] [("tuple", .type "tuple"), ("map", .type "map"), ("fspath", .ref 112), ("isinstance", .builtin "isinstance"), ("bytes", .type "bytes"), ("min", .builtin "min"), ("max", .builtin "max"), ("enumerate", .type "enumerate")] ⟨_, _, _, by rfl⟩ (by rfl) (by kernel_rfl) (fun L => by rfl) (by rfl) (by walk_at "om") (by walk_at "om") ?_
  intro c' a1 a2 hw' hdp hun D C1 C2 hkeep hn
  have hl' : ∀ σ', Kn c' σ' l (lst xs) := fun σ' => hl.up hkeep hn
  show WL c' ⟨[some (.ref l), none, none, none, none, none, none, none, none], [(a1, cel none), (a2, cel none)]⟩ _ _ _ _ _ _
  walk_at "q"
  refine WP.mapNew (hl' _) ?_
  intro M T L
  walk_at "q"
  refine WP.tupleMap hs (by walk_at "om") (by walk_at "om") (by walk_at "om") (hl' _) ?_
  intro U
  walk_at "q"
  refine BR.t (by rw [hxe]; rfl) ?_
  dsimp only
  walk_at "q"
  refine WP.itemT (.led .head) (by decide) (by walk_at "om") (by rw [hxe]; rfl) ?_
  set_option tactic.hygienic true in walk_at "q"
  rename_i tsep tcur
  let L0 : Led := [(U, tup xs), (a1, cel (some (.str (S (tx "/")) tsep))), (a2, cel (some (.str (S (tx ".")) tcur)))]
  have hL0U : (U, tup xs) ∈ L0 := .head _
  have hL01 : (a1, cel (some (.str (S (tx "/")) tsep))) ∈ L0 := .tail _ (.head _)
  have hL02 : (a2, cel (some (.str (S (tx ".")) tcur))) ∈ L0 := .tail _ (.tail _ (.head _))
  refine WS.compX (cl := [("sep", a1)]) D (scopeOk3 rfl rfl (by decide) (by decide)) (closureOne rfl C1.l) (swapsTrue D (.tail _ (.head _)) rfl rfl (by decide) (by decide)) ?_
  walk_at "q"
  refine ⟨true, U, xs, CpA c' L0 ts, rfl, fun rest acc l h => .tuple (.led (.of_mem (h.base _ hL0U))), ?_, by lia, ⟨fun _ h => h, [], ts, rfl, hs, .nil⟩, ?_⟩
  · rintro C I p Dd v rest acc l oL ⟨hbase, done, restT, hts, hrest, hrows⟩
    cases hrest with
    | @cons a t _ restT hrest =>
    have hDc := D.comp (scope := { kind := ScopeKind.function, names := [(".0", .local), ("path", .local), ("sep", .free)], isGenerator := false, isCoroutine := false }) (cl := [("sep", a1)]) (C := C) (x := "path") (scopeOk3 (f := "sep") rfl rfl (by decide) (by decide))
    have hCc := C1.comp (scope := { kind := ScopeKind.function, names := [(".0", .local), ("path", .local), ("sep", .free)], isGenerator := false, isCoroutine := false }) (C := C) (x := "path") rfl rfl (by decide) (by decide)
    show WP _ _ _ _
    have hal := (hsz a (by rw [hts]; simp)).1
    walk_at "q"
    refine WP.ldCell hCc (.led (.of_mem (.tail _ (.tail _ (.tail _ (hbase _ hL01)))))) ?_
    walk_at "q"
    refine WP.back (WP.split1 (d := 47) (by walk_at "om") ?_)
    intro Dy ys hys
    refine ⟨(I, p) :: (Dd, lst acc) :: (c'.L, oL) :: (Dy, lst ys) :: l, (List.perm_middle (l₁ := [_, _, _])).symm, (Dy, lst ys) :: l, .refl _, _, rfl, fun q hq => .tail _ (hbase q hq), done ++ [a], restT, by rw [hts]; simp, hrest, ?_⟩
    rw [List.map_append]
    exact (hrows.mono fun q hq => .tail _ hq).snoc (.led .head) hys
  · intro SP
    refine ⟨_, .tail .head, ?_⟩
    rintro acc1 l1 ⟨hbase1, done1, restT1, hts1, hrest1, hrows1⟩
    cases hrest1
    rw [List.append_nil] at hts1
    subst hts1
    walk_at "q"
    refine WS.AssignTupS (WP.setComp (cl := [("sep", a1)]) D (scopeOk3 rfl rfl (by decide) (by decide)) (closureOne rfl C1.l) ?_) rfl
    walk_at "q"
    refine ⟨U, xs, CpB ((SP, lst acc1) :: l1), rfl, (by rw [hxe]; simp), fun rest l h => .tuple (.led (.of_mem (h.eq ▸ .tail _ (hbase1 _ hL0U)))), ?_, ⟨rfl, ts, hsz, hs⟩, ?_⟩
    · rintro C I p Dd pD v rest l oL ⟨rfl, restT, hr, hrest⟩
      cases hrest with
      | @cons a t _ restT hrest =>
      have hDc := D.comp (scope := { kind := ScopeKind.function, names := [(".0", .local), ("p", .local), ("sep", .free)], isGenerator := false, isCoroutine := false }) (cl := [("sep", a1)]) (C := C) (x := "p") (scopeOk3 (f := "sep") rfl rfl (by decide) (by decide))
      have hCc := C1.comp (scope := { kind := ScopeKind.function, names := [(".0", .local), ("p", .local), ("sep", .free)], isGenerator := false, isCoroutine := false }) (C := C) (x := "p") rfl rfl (by decide) (by decide)
      walk_at "q"
      refine WP.ldCell hCc (.led (.of_mem (.tail _ (.tail _ (.tail _ (.tail _ (hbase1 _ hL01))))))) ?_
      walk_at "q"
      refine WP.startswith (d := 47) ?_
      exact ⟨by rw [decide_eq_false (hr a (.head _)).2], _, .refl _, _, rfl, rfl, restT, fun q hq => hr q (.tail _ hq), hrest⟩
    · rintro Dset l ⟨rfl, _⟩
      refine WP.unpackS1 (.led .head) ?_
      walk_at "q"
      refine WS.compX (cl := [("curdir", a2)]) D (scopeOk3 rfl rfl (by decide) (by decide)) (closureOne rfl C2.l) (swapsTrue D (.tail _ (.head _)) rfl rfl (by decide) (by decide)) ?_
      walk_at "q"
      have hacc1 := hrows1.len
      refine ⟨false, SP, acc1, CpC c' L0 SP acc1 ts, rfl, fun rest acc l h => .list (.led (.of_mem h.sp)), ?_, by rw [hacc1, List.length_map]; lia, ⟨fun q hq => .tail _ (.tail _ (hbase1 q hq)), .tail _ (.head _), [], ts, rfl, hrows1.mono (fun q hq => .tail _ (.tail _ hq)), .nil⟩, ?_⟩
      · rintro C I p Dd v rest acc l oL ⟨hbase, hSP, dn, restT, hts, hrest, hrows⟩
        cases restT with
        | nil => cases hrest
        | cons a restT =>
        cases hrest with
        | @cons e ws _ _ _ ke hws hrest =>
        have hDc := D.comp (scope := { kind := ScopeKind.function, names := [(".0", .local), ("s", .local), ("curdir", .free)], isGenerator := false, isCoroutine := false }) (cl := [("curdir", a2)]) (C := C) (x := "s") (scopeOk3 (f := "curdir") rfl rfl (by decide) (by decide))
        have hCc := C2.comp (scope := { kind := ScopeKind.function, names := [(".0", .local), ("s", .local), ("curdir", .free)], isGenerator := false, isCoroutine := false }) (C := C) (x := "s") rfl rfl (by decide) (by decide)
        have hal := (hsz a (by rw [hts]; simp)).1
        show WP _ _ _ _
        refine WP.back (WP.compX (cl := [("curdir", a2)]) hDc (scopeOk3 rfl rfl (by decide) (by decide)) (closureOne rfl hCc.l) ?_)
        walk_at "q"
        have hwl := hws.len
        have hss := split_sum 47 a
        refine ⟨false, e, ws, CpD ((I, p) :: (Dd, lst acc) :: (c'.L, oL) :: l) a, rfl, fun rest2 acc2 lx h => .list (h.eq ▸ (Kn.comp ke (fun q hq => .tail _ (.tail _ (.tail _ hq))))), ?_, by lia, ⟨rfl, [], _, rfl, hws, .nil⟩, ?_⟩
        · rintro C3 I3 p3 D3 v rest2 acc2 lx oL3 ⟨rfl, dn2, rt2, hsp, hr2, hac2⟩
          cases hr2 with
          | @cons b tb _ rt2 hr2 =>
          have hDcc := hDc.comp (scope := { kind := ScopeKind.function, names := [(".0", .local), ("c", .local), ("curdir", .free)], isGenerator := false, isCoroutine := false }) (cl := [("curdir", a2)]) (C := C3) (x := "c") (scopeOk3 (f := "curdir") rfl rfl (by decide) (by decide))
          have hCcc := hCc.comp (scope := { kind := ScopeKind.function, names := [(".0", .local), ("c", .local), ("curdir", .free)], isGenerator := false, isCoroutine := false }) (C := C3) (x := "c") rfl rfl (by decide) (by decide)
          have hbl : b.length ≤ 4000 := by
            rw [hsp] at hss
            unfold sumLen at hss
            simp at hss
            lia
          show WB _ _ _ _ _ _
          walk_at "q"
          have hno : b = [] ∨ b = tx "." → Strs acc2 ((dn2 ++ [b]).filter keepC) := by
            intro h
            have hk : keepC b = false := by
              rcases h with h | h <;> subst h <;> decide
            rw [List.filter_append]
            simp [hk]
            exact hac2
          refine ⟨fun hb => ?_, fun hb => ?_⟩
          · have hb1 : b ≠ [] := by simpa using hb
            walk_at "q"
            refine WP.ldCell hCcc (.led (.of_mem (.tail _ (.tail _ (.tail _ (.tail _ (.tail _ (.tail _ (hbase _ hL02))))))))) ?_
            walk_at "q"
            refine ⟨fun hb => ?_, fun hb => ?_⟩
            · have hb2 : b ≠ tx "." := by simpa using hb
              walk_at "q"
              refine ⟨_, .refl _, _, rfl, rfl, dn2 ++ [b], rt2, by rw [hsp]; simp, hr2, ?_⟩
              have hk : keepC b = true := by
                have : tx "." = [46] := rfl
                rw [this] at hb2
                simp [keepC, hb1, hb2]
              rw [List.filter_append]
              simp only [List.filter_cons, hk, if_true, List.filter_nil]
              exact hac2.snoc _ _
            · have hb2 : b = tx "." := by simpa using hb
              exact ⟨_, .refl _, _, rfl, rfl, dn2 ++ [b], rt2, by rw [hsp]; simp, hr2, hno (.inr hb2)⟩
          · have hb1 : b = [] := by simpa using hb
            exact ⟨_, .refl _, _, rfl, rfl, dn2 ++ [b], rt2, by rw [hsp]; simp, hr2, hno (.inl hb1)⟩
        · rintro D2 acc2 lx ⟨rfl, dn2, rt2, hsp, hr2, hac2⟩
          cases hr2
          rw [List.append_nil] at hsp
          refine ⟨(I, p) :: (Dd, lst acc) :: (c'.L, oL) :: (D2, lst acc2) :: l, (List.perm_middle (l₁ := [_, _, _])).symm, (D2, lst acc2) :: l, .refl _, _, rfl, fun q hq => .tail _ (hbase q hq), .tail _ hSP, dn ++ [a], restT, by rw [hts]; simp, hrest.mono fun q hq => .tail _ hq, ?_⟩
          rw [List.map_append]
          refine (hrows.mono fun q hq => .tail _ hq).snoc (.led .head) ?_
          unfold comps
          rw [hsp]; exact hac2
      · intro SP2
        refine ⟨_, .tail .head, ?_⟩
        rintro acc2 l2 ⟨hbase2, _, dn, restT, hts, hrest2, hrows2⟩
        cases restT with
        | cons => cases hrest2
        | nil =>
        rw [List.append_nil] at hts
        subst hts
        have hrows3 : RowsK c' ((SP2, lst acc2) :: l2) acc2 (ts.map comps) := hrows2.mono fun q hq => .tail _ hq
        obtain ⟨a0, ts0, hte⟩ : ∃ a0 ts0, ts = a0 :: ts0 := by
          cases ts with
          | nil => exact absurd rfl hne
          | cons a0 ts0 => exact ⟨a0, ts0, rfl⟩
        have hrows4 : RowsK c' ((SP2, lst acc2) :: l2) acc2 (comps a0 :: ts0.map comps) := by rw [hte] at hrows3; exact hrows3
        have hacc2 := hrows3.len
        rw [List.length_map] at hacc2
        have hm1 := leastR_ok (ts0.map comps) (comps a0)
        have hm2 := mostR_ok (ts0.map comps) (comps a0)
        have hmap : ts.map comps = comps a0 :: ts0.map comps := by rw [hte]; rfl
        rw [hmap] at hP
        have hlcp := hP.lcp hm1.1 hm2.1 hm1.2 hm2.2
        have hno := hm2.2 _ hm1.1
        walk_at "q"
        refine WP.minRows (by walk_at "om") (.led .head) hrows4 ?_
        rintro v1 ⟨e1, ws1, rfl, ke1, hws1⟩
        walk_at "q"
        refine WP.maxRows (by walk_at "om") (.led .head) hrows4 ?_
        rintro v2 ⟨e2, ws2, rfl, ke2, hws2⟩
        have hsum1 : sumLen (leastR (comps a0) (ts0.map comps)) + (leastR (comps a0) (ts0.map comps)).length ≤ 2001 := by
          have hm := hm1.1
          rw [← hmap] at hm
          obtain ⟨p, hp, e⟩ := List.mem_map.mp hm
          have h1 := comps_sum p
          have h2 := (hsz p hp).1
          rw [← e]; lia
        have hsum2 : sumLen (mostR (comps a0) (ts0.map comps)) + (mostR (comps a0) (ts0.map comps)).length ≤ 2001 := by
          have hm := hm2.1
          rw [← hmap] at hm
          obtain ⟨p, hp, e⟩ := List.mem_map.mp hm
          have h1 := comps_sum p
          have h2 := (hsz p hp).1
          rw [← e]; lia
        generalize hr1 : leastR (comps a0) (ts0.map comps) = r1 at hlcp hno hws1 hsum1
        generalize hr2 : mostR (comps a0) (ts0.map comps) = r2 at hlcp hno hws2 hsum2
        have hwl1 := hws1.len
        have hwl2 := hws2.len
        walk_at "q"
        refine WS.cut (fun σ' => Ex5 fun e ws x3 x7 l' => A4 (σ' = ⟨[some (.ref U), some (.ref SP2), some (.bool false), x3, some (.ref e1), some (.ref e2), some (.ref e), x7, none], l'⟩) (Kn c' ⟨[], l'⟩ e (lst ws)) (Strs ws P) ((a1, cel (some (.str (S (tx "/")) tsep))) ∈ l')) ?_ ?_
        · refine WS.forEnum ?_
          walk_at "q"
          refine WP.enumNew (ke1.mono fun _ h => h) ?_
          intro e it
          walk_at "q"
          refine ⟨e, it, e1, ws1, fun i σ' => Ex2 fun x3 x7 => σ' = ⟨[some (.ref U), some (.ref SP2), some (.bool false), x3, some (.ref e1), some (.ref e2), some (.ref e1), x7, none], (SP2, lst acc2) :: l2⟩ ∧ r1.take i = r2.take i, (SP2, lst acc2) :: l2, rfl, rfl, ⟨none, none, rfl, by simp⟩, ?_, ?_, ?_⟩
          · rintro i σ' ⟨x3, x7, rfl, _⟩
            exact ke1.mono fun _ h => h
          · rintro i v tk p1 p2 σ' hv ⟨x3, x7, rfl, hpre⟩
            obtain ⟨a, ta, ha, rfl⟩ := hws1.get hv
            obtain ⟨hi1, hi2⟩ := List.getElem?_eq_some_iff.mp ha
            have hj := long_enough hpre hi1 hno
            have hjv : i < ws2.length := by lia
            obtain ⟨b, tb, hb, hvb⟩ := hws2.get (List.getElem?_eq_getElem hjv)
            obtain ⟨hj1, hj2⟩ := List.getElem?_eq_some_iff.mp hb
            dsimp only
            walk_at "q"
            refine WP.itemL (w := .str (S b) tb) (ke2.mono fun _ h => .tail _ (.tail _ h)) (by walk_at "om") (by walk_at "om") (by rw [Int.toNat_natCast, List.getElem?_eq_getElem hjv, hvb]) ?_
            walk_at "q"
            refine ⟨fun hab => ?_, fun hab => ?_⟩
            · have hne' : a ≠ b := by simpa using hab
              walk_at "q"
              intro sl
              refine WP.sliceL (ke1.mono fun _ h => .tail _ (.tail _ (.tail _ h))) (.led .head) .none (.int _ _) .none (by simp) (by walk_at "om") ?_
              intro f
              rw [slicePick_upto', List.toList_toArray]
              walk_at "q"
              refine ⟨f, ws1.take i, _, _, _, rfl, .led .head, ?_, .tail _ (.tail _ (.tail _ (.tail _ (.tail _ (hbase2 _ hL01)))))⟩
              have hl := lcp_at hpre hi1 hj1 (by rw [hi2, hj2]; exact hne')
              rw [← hlcp, hl]
              exact hws1.take i
            · have heq : a = b := by simpa using hab
              walk_at "q"
              refine ⟨(SP2, lst acc2) :: l2, .refl _, _, _, rfl, ?_⟩
              rw [List.take_add_one, List.take_add_one, hpre, ha, hb, heq]
          · rintro σ' ⟨x3, x7, rfl, hpre⟩
            refine ⟨e1, ws1, x3, x7, _, rfl, ke1, ?_, .tail _ (hbase2 _ hL01)⟩
            rw [hwl1] at hpre
            rw [← hlcp, lcp_all hpre]
            exact hws1
        · rintro σ' ⟨e, ws, x3, x7, l', rfl, ke, hws, hL1'⟩
          walk_at "q"
          refine WP.ldCell C1 (.led (.of_mem hL1')) ?_
          walk_at "q"
          intro sl
          refine WP.sTo (.led .head) (by decide) (by decide) (by decide) ?_
          intro _
          rw [show List.take (0 : Int).toNat (tx "/") = [] from rfl]
          walk_at "q"
          refine WP.ldCell C1 (.led (.of_mem (.tail _ hL1'))) ?_
          walk_at "q"
          have hPs : sumLen P + P.length ≤ 2001 := by
            have := lcp_sum r1 r2
            rw [hlcp] at this; lia
          refine WP.join (ts := P) (ke.mono fun _ h => .tail _ h) hws (by decide) (by walk_at "om") ?_
          intro _
          have hjl : (joinT (tx "/") P).length ≤ 10000 := by
            have h1 := joinT_len (tx "/") P
            have h2 : (tx "/").length = 1 := by decide
            rw [h2] at h1
            unfold sumLen at hPs
            lia
          walk_at "q"
          exact ⟨[], List.nil_sublist _, H _⟩
end Mine
end
section
open PySem PySem.W PyProof.Rows PySem.Calls PySem.Spec
namespace Mine
theorem sublist_of_mem {α : Type} {x : α} {l : List α} (h : x ∈ l) : List.Sublist [x] l := List.singleton_sublist.mpr h
theorem openT_le : ∀ es : List T, es.length ≤ (openT es).length
  | [] => Nat.zero_le _
  | n :: es => by
    have ih := openT_le es
    have e : openT (n :: es) = (spell n 0 ++ [123]) ++ openT es := rfl
    rw [e]
    simp only [List.length_append, List.length_cons, List.length_nil]
    lia
theorem WS.sub {c : Cx} {env : Env} {st : Stmt} {qn qb qc : Sg → Prop} {qr : Value → Sg → Prop} {vs l l'} (hl : List.Sublist l l') (H : WS c ⟨vs, l⟩ env st qn qr qb qc) : WS c ⟨vs, l'⟩ env st qn qr qb qc := WP.sub hl H
inductive BackK (l : Addr) (locs : List Loc) (i : Nat) : Sg → Prop
  | mk (hs : List T) (text : T) (tt th : Tok) (x3 x4 x5 x6 x7 x8 : Option Value) (l0 : Led) (h1 : NamesOk hs) (h2 : (pathOf hs).length ≤ 1000) (h3 : text ++ outT (decide (0 < i)) hs (locs.drop i) ++ [125] = [123] ++ outT false [] locs ++ [125]) : BackK l locs i ⟨[some (.ref l), some (.str (S text) tt), some (.str (S (pathOf hs)) th), x3, x4, x5, x6, x7, x8], l0⟩
inductive UpK (l : Addr) (P : List T) (w3 w4 w5 w6 w7 w8 : Option Value) (L0 : Led) (tot : T) : Nat → Sg → Prop
  | mk (d : List T) (th tt : Tok) (text' : T) (h1 : NamesOk (P ++ d)) (h2 : (pathOf (P ++ d)).length ≤ 1000) (h3 : text' ++ shut d.length = tot) : UpK l P w3 w4 w5 w6 w7 w8 L0 tot d.length ⟨[some (.ref l), some (.str (S text') tt), some (.str (S (pathOf (P ++ d))) th), w3, w4, w5, w6, w7, w8], L0⟩
inductive ShutK (l : Addr) (w3 w4 w5 w6 w7 w8 : Option Value) (L0 : Led) (tot : T) : Nat → Sg → Prop
  | mk (d : List T) (th tt : Tok) (text' : T) (h1 : NamesOk d) (h2 : (pathOf d).length ≤ 1000) (h3 : text' ++ shut d.length = tot) : ShutK l w3 w4 w5 w6 w7 w8 L0 tot d.length ⟨[some (.ref l), some (.str (S text') tt), some (.str (S (pathOf d)) th), w3, w4, w5, w6, w7, w8], L0⟩
inductive DownK (l : Addr) (w1 w2 w3 w5 w6 : Option Value) (Dn : Addr) (L0 : Led) (P es : List T) : Nat → Sg → Prop
  | mk (e r : List T) (done : List Value) (tg : Tok) (x8 : Option Value) (h1 : es = e ++ r) (h2 : (pathOf (P ++ e)).length ≤ 1000) (h3 : Strs done r.reverse) : DownK l w1 w2 w3 w5 w6 Dn L0 P es e.length ⟨[some (.ref l), w1, w2, w3, some (.str (S (pathOf (P ++ e))) tg), w5, w6, some (.ref Dn), x8], (Dn, lst done) :: L0⟩
inductive OpenK (l : Addr) (T1 : T) (w3 w4 w5 w6 : Option Value) (Dn : Addr) (L0 : Led) (P es : List T) (rest : List Value) : Sg → Prop
  | mk (q r : List T) (x0 x2 : Tok) (x8 : Option Value) (h1 : es = q ++ r) (h2 : Strs rest r) : OpenK l T1 w3 w4 w5 w6 Dn L0 P es rest ⟨[some (.ref l), some (.str (S (T1 ++ openT q)) x0), some (.str (S (pathOf (P ++ q))) x2), w3, w4, w5, w6, some (.ref Dn), x8], L0⟩
theorem back_wc {c : Cx} {σ : Sg} {l : Addr} {ys : List Value} {locs : List Loc} {Q : Value → Sg → Prop} (hl : Kn c σ l (lst ys)) (hs : Strs ys (locs.map rowOf)) (hok : ∀ p ∈ locs, LocOk p ∧ (rowOf p).length ≤ 1000) (hn : locs.length ≤ 400) (hz : ([123] ++ outT false [] locs ++ [125]).length ≤ 80000) (hd : 20 ≤ c.dp) (hu : 250 ≤ c.un)
    (H : ∀ u, Q (.str (S ([123] ++ outT false [] locs ++ [125])) u) ⟨σ.vs, σ.news⟩) : WC c σ (.call (.ref 893) ⟨[.ref l], []⟩) Q := by
  have hyl := hs.len
  rw [List.length_map] at hyl
  have e1 : (tx "}").length = 1 := by decide
  have e2 : (tx "{").length = 1 := by decide
  have e3 : (tx ",").length = 1 := by decide
  have e4 : (tx "").length = 0 := by decide
  have e5 : tx "}" = [125] := rfl
  have e6 : tx "{" = [123] := rfl
  have e7 : tx "," = [44] := rfl
  have e8 : tx "" = [] := rfl
  refine WC.pureCall ["rows"] ["text", "here", "k", "goal", "name", "stem", "down", "last"] [.ref l] 15 200 ["rows", "text", "here", "k", "goal", "name", "stem", "down", "last"] [some (.ref l), none, none, none, none, none, none, none, none] [("range", .type "range"), ("len", .builtin "len"), ("split", .ref 140), ("commonpath", .ref 152), ("dirname_posixpath", .ref 147), ("join_posixpath", .ref 133), ("_law_spelled", .ref 851)] ⟨⟨_, _, _, by rfl⟩, by rfl, by kernel_rfl⟩ (.of_eq (by rfl)) (by walk_at "om") (by walk_at "om") ?_
  intro c' hw' hdp hun D hkeep hnw
  have hl' : ∀ σ', Kn c' σ' l (lst ys) := fun σ' => hl.up hkeep hnw
  walk_at "q"
  refine WS.forRange ?_
  walk_at "q"
  refine WP.len_list (hl' _) (by walk_at "om") ?_
  intro _
  walk_at "q"
  refine WP.rangeNew ?_
  intro R
  refine ⟨R, ys.length, BackK l locs, rfl, .led .head, by lia, ?_, ?_, ?_⟩
  · exact .mk [] [123] _ _ none none none none none none _ NamesOk.nil (Nat.zero_le _) (by rw [List.drop_zero]; rfl)
  · intro i u p I σ' hi K
    induction K with | mk hs0 text tt th x3 x4 x5 x6 x7 x8 l0 hns hpl htot => ?_
    refine WP.sub (l := [(I, p)]) (sublist_of_mem (.head _)) ?_
    obtain ⟨a, tr, hra, hya⟩ := hs.get (List.getElem?_eq_getElem hi)
    obtain ⟨⟨gs, n⟩, hloc, rfl⟩ : ∃ q, locs[i]? = some q ∧ rowOf q = a := by simpa using hra
    have hil : i < locs.length := by lia
    have hlc : locs[i] = (gs, n) := (List.getElem?_eq_some_iff.mp hloc).2
    obtain ⟨hlo, hrl⟩ := hok (gs, n) (hlc ▸ List.getElem_mem hil)
    have hgp : (pathOf gs).length ≤ 1000 := by
      have := frontOf_le (pathOf gs)
      unfold rowOf at hrl
      rw [List.length_append] at hrl
      dsimp only at hrl
      lia
    have hnl : n.length ≤ 16 := by
      rcases hlo.2 with e | e
      · rw [show n = [] from e]; simp
      · exact e.short
    rw [List.drop_eq_getElem_cons hil, hlc] at htot
    have hst := stem_two hs0 gs
    obtain ⟨ds, hds⟩ := lcp_left hs0 gs
    obtain ⟨es, hes⟩ := lcp_right hs0 gs
    simp only [outT] at htot
    generalize lcp hs0 gs = P at hst hds hes htot
    subst hds
    have hgo : NamesOk gs := hlo.1
    rw [hes, List.drop_left, List.length_append, Nat.add_sub_cancel_left, ← hes] at htot
    have hlen := congrArg List.length htot
    have hshl : ∀ m, (shut m).length = m := fun m => by simp [shut]
    simp only [List.length_append, hshl] at hlen hz
    have hsum : text.length + ds.length + (commaT (decide (0 < i))).length + (openT es).length + (nameT n).length ≤ 80000 := by simp only [List.length_cons, List.length_nil] at hlen hz; lia
    clear hlen hz
    have hkf : decide ((i : Int) > 0) = decide (0 < i) := by simp
    walk_at "q"
    refine WS.AssignTup ?_
    walk_at "q"
    refine WP.itemL (hl' _) (by walk_at "om") (by walk_at "om") (by rw [Int.toNat_natCast, List.getElem?_eq_getElem hi, hya]) ?_
    walk_at "q"
    refine split_wc (row_split hlo) (by walk_at "om") (by walk_at "om") (by walk_at "om") ?_
    intro u1 u2 a
    walk_at "q"
    refine WP.unpackT2 (.led .head) ?_
    walk_at "q"
    refine commonpath_wc (ts := [pathOf (P ++ ds), pathOf gs]) (P := P) (.led .head) (.cons (.cons .nil)) (by simp) (by simp) ?_ ?_ (by walk_at "om") (by walk_at "om") ?_
    · intro q hq
      rcases List.mem_cons.mp hq with rfl | hq
      · exact ⟨by lia, path_first hns⟩
      · rw [List.mem_singleton.mp hq]
        exact ⟨by lia, path_first hgo⟩
    · show Stem [comps (pathOf (P ++ ds)), comps (pathOf gs)] P
      rw [comps_path hns, comps_path hgo]
      exact hst
    intro u3
    walk_at "q"
    dsimp only
    refine WS.sub (l := [(I, p)]) (sublist_of_mem (by simp)) ?_
    refine WS.While (UpK l P (some (.int (i : Nat) u)) (some (.str (S (pathOf gs)) u1)) (some (.str (S n) u2)) (some (.str (S (pathOf P)) u3)) x7 x8 [(I, p)] (text ++ shut ds.length)) ds.length (.mk ds th tt text hns hpl rfl) ?_
    intro m σ1 K
    induction K with | mk d th1 tt1 text1 hno1 hpl1 htx1 => ?_
    have hpp : (pathOf P).length ≤ 1000 := Nat.le_trans (path_le d P hno1) hpl1
    have hl1 := congrArg List.length htx1
    simp only [List.length_append, hshl] at hl1
    walk_at "q"
    rcases snoc_cases d with rfl | ⟨d', x, rfl⟩
    · refine BR.f (by simp) ?_
      simp only [List.append_nil]
      have htx2 : text1 = text ++ shut ds.length := by simpa [shut] using htx1
      refine WL.cons (WS.cut (fun σ' => ∃ tt, σ' = ⟨[some (.ref l), some (.str (S (text1 ++ commaT (decide (0 < i)))) tt), some (.str (S (pathOf P)) th1), some (.int (i : Nat) u), some (.str (S (pathOf gs)) u1), some (.str (S n) u2), some (.str (S (pathOf P)) u3), x7, x8], [(I, p)]⟩) ?_ ?_)
      · walk_at "q"
        refine ⟨fun hb => ?_, fun hb => ?_⟩
        · walk_at "q"
          have hi0 : 0 < i := by simpa using hb
          rw [decide_eq_true hi0, show commaT true = tx "," from rfl]
          exact ⟨_, rfl⟩
        · walk_at "q"
          have hi0 : ¬ 0 < i := by simpa using hb
          rw [decide_eq_false hi0, show commaT false = tx "" from rfl]
          exact ⟨_, rfl⟩
      · rintro σ2 ⟨tt2, rfl⟩
        set_option tactic.hygienic true in walk_at "q"
        rename_i Dn
        dsimp only
        have hol := openT_le es
        have hck : (commaT (decide (0 < i))).length ≤ 1 := by cases decide (0 < i) <;> decide
        generalize hT1 : text1 ++ commaT (decide (0 < i)) = T1
        have hT1l := congrArg List.length hT1
        rw [List.length_append] at hT1l
        refine WS.While (DownK l (some (.str (S T1) tt2)) (some (.str (S (pathOf P)) th1)) (some (.int (i : Nat) u)) (some (.str (S n) u2)) (some (.str (S (pathOf P)) u3)) Dn [(I, p)] P es) es.length ?_ ?_
        · have K : DownK l (some (.str (S T1) tt2)) (some (.str (S (pathOf P)) th1)) (some (.int (i : Nat) u)) (some (.str (S n) u2)) (some (.str (S (pathOf P)) u3)) Dn [(I, p)] P es es.length _ := .mk es [] [] u1 x8 (by simp) (by rw [← hes]; exact hgp) .nil
          rw [← hes] at K
          exact K
        · intro m σ1 K
          induction K with | mk e r done tg x8 her hgl hdone => ?_
          have hPe : NamesOk (P ++ e ++ r) := by rw [List.append_assoc, ← her, ← hes]; exact hgo
          have hdl := hdone.len
          rw [List.length_reverse] at hdl
          walk_at "q"
          rcases snoc_cases e with rfl | ⟨e', x, rfl⟩
          · refine BR.f (by simp) ?_
            have her' : es = r := by simpa using her
            subst her'
            refine WL.cons (WS.cutD (fun σ' => Ex4 fun x0 x2 x5 x8 => σ' = ⟨[some (.ref l), some (.str (S (T1 ++ openT es)) x0), some (.str (S (pathOf gs)) x2), some (.int (i : Nat) u), x5, some (.str (S n) u2), some (.str (S (pathOf P)) u3), some (.ref Dn), x8], [(I, p)]⟩) ?_ ?_)
            · refine WS.forL ?_
              walk_at "q"
              intro Sl
              refine WP.drop (WP.revL (.led (.tail .head)) (.led .head) (by walk_at "om") ?_)
              intro F
              refine ⟨[(F, lst done.reverse), (I, p)], .cons_cons _ (.cons _ (.cons _ (.refl _))), ?_⟩
              have hrv := hdone.rev
              rw [List.reverse_reverse] at hrv
              refine ⟨F, done.reverse, OpenK l T1 (some (.int (i : Nat) u)) (some (.str (S (pathOf (P ++ []))) tg)) (some (.str (S n) u2)) (some (.str (S (pathOf P)) u3)) Dn [(F, lst done.reverse), (I, p)] P es, rfl, ?_, ?_, ?_, ?_⟩
              · have K : OpenK l T1 (some (.int (i : Nat) u)) (some (.str (S (pathOf (P ++ []))) tg)) (some (.str (S n) u2)) (some (.str (S (pathOf P)) u3)) Dn [(F, lst done.reverse), (I, p)] P es done.reverse _ := .mk [] es tt2 th1 x8 rfl hrv
                rw [show openT [] = [] from rfl] at K
                simp only [List.append_nil] at K ⊢
                exact K
              · intro rest σ' K
                induction K with | mk => exact .led .head
              · intro v rest p3 I3 σ' K
                induction K with | mk q r y0 y2 y8 hqr hrest => ?_
                cases hrest with
                | @cons x tb _ r hrest =>
                have hno3 : NamesOk (P ++ q ++ [x]) := by
                  have := hPe
                  rw [List.append_nil, hqr] at this
                  have e : P ++ (q ++ x :: r) = (P ++ q ++ [x]) ++ r := by simp
                  rw [e] at this
                  exact this.left
                have hpq : (pathOf (P ++ q ++ [x])).length ≤ 1000 := by
                  refine Nat.le_trans (path_le r _ ?_) (?_ : (pathOf (P ++ q ++ [x] ++ r)).length ≤ 1000)
                  · have e : P ++ q ++ [x] ++ r = P ++ es := by rw [hqr]; simp
                    rw [e, ← hes]; exact hgo
                  · have e : P ++ q ++ [x] ++ r = P ++ es := by rw [hqr]; simp
                    rw [e, ← hes]; exact hgp
                have hpq1 := path_snoc_lt hno3
                have hox : openT es = openT q ++ (spell x 0 ++ [123]) ++ openT r := by
                  rw [hqr]; unfold openT; simp
                have hoxl := congrArg List.length hox
                simp only [List.length_append, List.length_cons, List.length_nil] at hoxl
                have hxs := (hno3 x (by simp)).short
                have hxl := path_le [x] (P ++ q) hno3
                walk_at "q"
                refine WC.drop (join_wc (by walk_at "om") (by walk_at "om") (by walk_at "om") (by walk_at "om") (fun u l => ⟨_, List.sublist_append_right _ _, ?_⟩))
                rw [path_join hno3, List.append_assoc P q [x]]
                walk_at "q"
                refine spelled_wc (w := 0) (by walk_at "om") (by walk_at "om") (by walk_at "om") (by walk_at "om") ?_
                intro t1
                walk_at "q"
                have ex : T1 ++ openT q ++ spell x 0 ++ tx "{" = T1 ++ openT (q ++ [x]) := by
                  rw [e6]; unfold openT; simp
                rw [ex]
                exact .mk _ (.refl _) (.mk (q ++ [x]) r _ _ _ (by rw [hqr]; simp) hrest)
              · intro σ' K
                induction K with | mk q r y0 y2 y8 hqr hrest => ?_
                cases hrest
                rw [List.append_nil] at hqr
                subst hqr
                rw [← hes]
                exact ⟨[(I, p)], .cons _ (.refl _), _, _, _, _, rfl⟩
            · rintro σ3 ⟨x0, x2, x5, x8, rfl⟩
              refine WL.cons (WS.cut (fun σ' => ∃ x0, σ' = ⟨[some (.ref l), some (.str (S (T1 ++ openT es ++ nameT n)) x0), some (.str (S (pathOf gs)) x2), some (.int (i : Nat) u), x5, some (.str (S n) u2), some (.str (S (pathOf P)) u3), some (.ref Dn), x8], [(I, p)]⟩) ?_ ?_)
              · have hsp := spell_len n 0
                walk_at "q"
                refine ⟨fun hb => ?_, fun hb => ?_⟩
                · have hn0 : n ≠ [] := by simpa [e8] using hb
                  have en : nameT n = spell n 0 := by unfold nameT; rw [if_neg hn0]
                  rw [en] at hsum ⊢
                  walk_at "q"
                  refine spelled_wc (w := 0) (by walk_at "om") (by walk_at "om") (by walk_at "om") (by walk_at "om") ?_
                  intro t1
                  walk_at "q"
                  exact ⟨_, rfl⟩
                · have hn0 : n = [] := by simpa [e8] using hb
                  have en : nameT n = tx "" := by unfold nameT; rw [if_pos hn0]; rfl
                  rw [en] at hsum ⊢
                  walk_at "q"
                  exact ⟨_, rfl⟩
              · rintro σ4 ⟨x0, rfl⟩
                walk_at "q"
                refine .mk [] (.refl _) (.mk gs _ _ _ _ _ _ _ _ _ _ hgo hgp ?_)
                rw [← htot, ← hT1, htx2, decide_eq_true (Nat.succ_pos i)]
                simp only [List.append_assoc]
          · have hno3 : NamesOk (P ++ e' ++ [x]) := by rw [List.append_assoc]; exact hPe.left
            have hlt : (pathOf P).length < (pathOf (P ++ (e' ++ [x]))).length := by
              rw [← List.append_assoc]
              exact Nat.lt_of_le_of_lt (path_le e' P hno3.left) (path_snoc_lt hno3)
            refine BR.t (by simpa using hlt) ?_
            refine WLN.of ?_
            refine WL.ends ?_
            walk_at "q"
            refine WS.AssignTup ?_
            walk_at "q"
            refine split_wc (hd := pathOf (P ++ e')) (tl := x) (by rw [← List.append_assoc]; exact path_split hno3) (by walk_at "om") (by walk_at "om") (by walk_at "om") ?_
            intro u4 u5 a2
            walk_at "q"
            refine WP.unpackT2 (.led .head) ?_
            have herl := congrArg List.length her
            simp only [List.length_append, List.length_cons, List.length_nil] at herl
            walk_at "q"
            refine ⟨[(Dn, lst _), (I, p)], .cons _ (.refl _), e'.length, by simp, .mk e' (x :: r) _ _ _ (by rw [her]; simp) ?_ ?_⟩
            · rw [← List.append_assoc] at hgl
              exact Nat.le_trans (Nat.le_of_lt (path_snoc_lt hno3)) hgl
            · rw [List.reverse_cons]
              exact hdone.snoc _ _
    · have hlt : (pathOf P).length < (pathOf (P ++ (d' ++ [x]))).length := by
        rw [← List.append_assoc] at hno1 ⊢
        exact Nat.lt_of_le_of_lt (path_le d' P hno1.left) (path_snoc_lt hno1)
      refine BR.t (by simpa using hlt) ?_
      walk_at "q"
      refine dirname_wc (hd := pathOf (P ++ d')) (tl := x) (by rw [← List.append_assoc] at hno1 ⊢; exact path_split hno1) (by walk_at "om") (by walk_at "om") (by walk_at "om") ?_
      intro th2
      walk_at "q"
      refine ⟨d'.length, by simp, .mk d' _ _ _ ?_ ?_ ?_⟩
      · rw [← List.append_assoc] at hno1; exact hno1.left
      · rw [← List.append_assoc] at hno1 hpl1
        exact Nat.le_trans (Nat.le_of_lt (path_snoc_lt hno1)) hpl1
      · rw [← htx1, e5, List.length_append]
        show _ = text1 ++ shut (d'.length + 1)
        rw [shut_snoc]; simp
  · intro σ' K
    induction K with | mk hs0 text tt th x3 x4 x5 x6 x7 x8 l0 hns hpl htot => ?_
    rw [List.drop_of_length_le (by walk_at "om")] at htot
    rw [← htot] at hz H
    unfold outT at H hz
    have hshl : ∀ m, (shut m).length = m := fun m => by simp [shut]
    simp only [List.length_append, hshl] at hz
    walk_at "q"
    refine WS.While (ShutK l x3 x4 x5 x6 x7 x8 l0 (text ++ shut hs0.length)) hs0.length (.mk hs0 th tt text hns hpl rfl) ?_
    intro m σ1 K
    induction K with | mk d th1 tt1 text1 hno1 hpl1 htx1 => ?_
    have hl1 := congrArg List.length htx1
    simp only [List.length_append, hshl] at hl1
    walk_at "q"
    rcases snoc_cases d with rfl | ⟨d', x, rfl⟩
    · refine BR.f (by rfl) ?_
      have htx2 : text1 = text ++ shut hs0.length := by simpa [shut] using htx1
      walk_at "q"
      refine ⟨[], List.nil_sublist _, ?_⟩
      rw [htx2, e5]
      exact H _
    · have hne : pathOf (d' ++ [x]) ≠ [] := pathOf_ne hno1 (by simp)
      refine BR.t (by simp [e8, hne]) ?_
      walk_at "q"
      refine dirname_wc (hd := pathOf d') (tl := x) (path_split hno1) (by walk_at "om") (by walk_at "om") (by walk_at "om") ?_
      intro th2
      walk_at "q"
      refine ⟨d'.length, by simp, .mk d' _ _ _ hno1.left ?_ ?_⟩
      · exact Nat.le_trans (Nat.le_of_lt (path_snoc_lt hno1)) hpl1
      · rw [← htx1, e5, List.length_append]
        show _ = text1 ++ shut (d'.length + 1)
        rw [shut_snoc]; simp
end Mine
end
section
open PySem PySem.W PyProof.Rows PySem.Calls PySem.Spec
namespace Mine
theorem WL.sub {c : Cx} {env : Env} {st : List Stmt} {qn qb qc : Sg → Prop} {qr : Value → Sg → Prop} {vs l l'} (hl : List.Sublist l l') (H : WL c ⟨vs, l⟩ env st qn qr qb qc) : WL c ⟨vs, l'⟩ env st qn qr qb qc := WP.sub hl H
inductive StemK (c' : Cx) (l nl R : Addr) (f : Forest) (rest : List Value) : Sg → Prop
  | mk (r : Forest) (x3 x4 x5 x6 : Option Value) (l0 : Led) (h1 : Kids (Old c') rest r) (h2 : r.Ok) (h3 : r.Dist) (h4 : r.count ≤ 200) (h5 : r.depth ≤ f.depth) (h6 : sizeOf r ≤ sizeOf f) : StemK c' l nl R f rest ⟨[some (.ref l), some (.ref nl), some (.ref R), x3, x4, x5, x6], l0⟩
theorem stems_wc : ∀ (f : Forest) {c : Cx} {σ : Sg} {l nl : Addr} {ks xs : List Value} {ns : List T} {Q : Value → Sg → Prop}, Kids (Kno c σ) ks f → Kn c σ l (lst ks) → Kn c σ nl (lst xs) → Strs xs ns → NamesOk ns → f.Ok → f.Dist → f.count ≤ 200 → ns.length + f.depth ≤ 20 → f.depth + 14 ≤ c.dp → 40 * f.depth + 250 ≤ c.un →
    Q (.bool true) ⟨σ.vs, σ.news⟩ → WC c σ (.call (.ref 905) ⟨[.ref l, .ref nl], []⟩) Q := by
  intro f
  induction h : sizeOf f using Nat.strongRecOn generalizing f with | ind sz IH => ?_
  intro c σ l nl ks xs ns Q hk hl hnl hxs hns hok hdi hcn hdep hd hu H
  have htl := Forest.top_le f
  have hkl := hk.len
  have hxl := hxs.len
  have e1 : (tx "/").length = 1 := by decide
  have e2 : (tx "").length = 0 := by decide
  have e3 : tx "/" = [47] := rfl
  refine WC.pureCall ["kids", "names"] ["rows", "name", "way", "space", "below"] [.ref l, .ref nl] (f.depth + 13) (40 * f.depth + 240) ["kids", "names", "rows", "name", "way", "space", "below"] [some (.ref l), some (.ref nl), none, none, none, none, none] [("_law_due", .ref 872), ("commonpath", .ref 152), ("_law_alone", .ref 900), ("_law_stems", .ref 905)] ⟨⟨_, _, _, by rfl⟩, by rfl, by kernel_rfl⟩ (.of_eq (by rfl)) (by walk_at "om") (by walk_at "om") ?_
  intro c' hw' hdp hun D hkeep hn
  have hk' : Kids (Old c') ks f := hk.mono fun a p k => k.toOld hkeep hn
  have hl' : ∀ σ', Kn c' σ' l (lst ks) := fun σ' => hl.up hkeep hn
  have hnl' : ∀ σ', Kn c' σ' nl (lst xs) := fun σ' => hnl.up hkeep hn
  walk_at "q"
  refine WP.compX (cl := []) D (scopeOk2 rfl rfl (by decide) (by decide)) (closureNil rfl) ?_
  walk_at "q"
  refine ⟨false, nl, xs, fun rest acc l => l = [] ∧ ∃ done restN, ns = done ++ restN ∧ Strs rest restN ∧ Strs acc (done.map fun n => n ++ [47]), rfl, fun rest acc l h => .list (hnl' _), ?_, by lia, ⟨rfl, [], ns, rfl, hxs, .nil⟩, ?_⟩
  · rintro C I p Dd v rest acc l oL ⟨rfl, done, restN, hts, hrest, hacc⟩
    cases hrest with
    | @cons a t _ restN hrest =>
    have hDc := D.comp (scope := { kind := ScopeKind.function, names := [(".0", .local), ("name", .local)], isGenerator := false, isCoroutine := false }) (cl := []) (C := C) (x := "name") (scopeOk2 rfl rfl (by decide) (by decide))
    have has := (hns a (by rw [hts]; simp)).short
    show WP _ _ _ _
    walk_at "q"
    refine ⟨_, .refl _, _, rfl, rfl, done ++ [a], restN, by rw [hts]; simp, hrest, ?_⟩
    rw [List.map_append, e3]
    exact hacc.snoc _ _
  · rintro E acc l0 ⟨rfl, done, restN, hts, hrest, hacc⟩
    cases hrest
    rw [List.append_nil] at hts
    subst hts
    have hfl := front_len ns hns
    have hsl : sumLen (ns.map fun n => n ++ [47]) ≤ 17 * ns.length := sumLen_front ns hns
    have hdl := dueR_len f (frontOf (pathOf ns))
    have hol := oneIf_len f (frontOf (pathOf ns))
    have hnl1 : (locF f ns).length ≤ 201 := by
      have := congrArg List.length (due_locF f ns hok hns)
      unfold dueF at this
      rw [List.length_append, List.length_map] at this
      lia
    walk_at "q"
    refine WP.join (.led .head) hacc (by walk_at "om") (by rw [List.length_map]; lia) ?_
    intro tf
    rw [joinNil, ← pathOf_front hns] at *
    walk_at "q"
    refine due_wc f (hk'.mono fun a p k => k.kn) (hl' _) hok hcn (by walk_at "om") (by walk_at "om") (by walk_at "om") ?_
    intro R ys hys
    rw [due_locF f ns hok hns] at hys
    have hyl := hys.len
    rw [List.length_map] at hyl
    walk_at "q"
    intro S1
    refine WP.butLast (.led (.tail .head)) (.led .head) (by walk_at "om") ?_
    intro B1
    walk_at "q"
    intro S2
    refine WP.revL (.led (.tail .head)) (.led .head) (by simp; lia) ?_
    intro B2
    walk_at "q"
    refine WP.add_list (.led (.tail (.tail (.tail (.tail .head))))) (.led .head) (by simp; lia) ?_
    intro B3
    have htw := stem_twice f ns (ys.length - 1) hok hdi hns
    have hst2 : Strs (ys ++ (ys.take (ys.length - 1)).reverse) ((locF f ns).map rowOf ++ (((locF f ns).map rowOf).take (ys.length - 1)).reverse) := hys.app (hys.take _).rev
    walk_at "q"
    refine commonpath_wc (.led .head) hst2 ?_ ?_ ?_ htw (by walk_at "om") (by walk_at "om") ?_
    · intro e
      have := (List.append_eq_nil_iff.mp e).1
      exact locF_ne f ns (List.map_eq_nil_iff.mp this)
    · simp; lia
    · intro q hq
      have hq' : q ∈ (locF f ns).map rowOf := by
        rcases List.mem_append.mp hq with h | h
        · exact h
        · exact List.mem_of_mem_take (List.mem_reverse.mp h)
      obtain ⟨l0, hl0, rfl⟩ := List.mem_map.mp hq'
      have hlo := loc_okF f ns hok hns l0 hl0
      have h1 := row_len hlo
      have h2 := loc_deepF f ns l0 hl0
      exact ⟨by lia, row_first hlo⟩
    intro u3
    walk_at "q"
    refine alone_wc f (hk'.mono fun a p k => k.kn) (hl' _) hcn (by walk_at "om") (by walk_at "om") ?_
    intro B4 zs hzs
    have hzl := hzs.len
    have hal := aloneF_len f
    walk_at "q"
    refine WP.add_list (hnl' _) (.led .head) (by walk_at "om") ?_
    intro B5
    walk_at "q"
    have hsl2 : sumLen (ns ++ aloneF f) ≤ 16 * (ns ++ aloneF f).length := sumLen_names _ fun x hx => (List.mem_append.mp hx).elim (fun h => (hns x h).short) (fun h => alone_short f hok x h)
    have hsl3 : (ns ++ aloneF f).length = ns.length + (aloneF f).length := List.length_append
    refine WP.join (.led .head) (hxs.app hzs) (by walk_at "om") (by walk_at "om") ?_
    intro u4
    walk_at "q"
    refine BR.f (by rw [e3]; simp) ?_
    dsimp only
    refine WL.sub (l := []) (List.nil_sublist _) ?_
    walk_at "q"
    refine WS.forL ?_
    walk_at "q"
    refine ⟨l, ks, StemK c' l nl R f, rfl, .mk f _ _ _ _ _ hk' hok hdi hcn (Nat.le_refl _) (Nat.le_refl _), fun _ σ' _ => hl' σ', ?_, ?_⟩
    · intro v rest p I σ' K
      induction K with | mk r x3 x4 x5 x6 l0 hkr hrok hrdi hrc hrd hrs => ?_
      refine WP.sub (l := [(I, p)]) (sublist_of_mem (.head _)) ?_
      cases hkr with
      | @leaf e n g w t u v vs r he hkr =>
        obtain ⟨hno, hw3, hgg, hro⟩ := hrok
        obtain ⟨_, hrdi⟩ := hrdi
        simp only [Forest.count, Forest.depth] at hrc hrd
        walk_at "q"
        exact .mk [] (.refl _) (.mk r _ _ _ _ _ hkr hro hrdi (by lia) (by lia) (Nat.le_of_lt (Nat.lt_of_lt_of_le Forest.szL hrs)))
      | @node e b n g w t u v ks' d vs r he hb hkd hkr =>
        obtain ⟨hno, hw3, hgg, hdo, hro⟩ := hrok
        obtain ⟨_, hddi, hrdi⟩ := hrdi
        simp only [Forest.count, Forest.depth] at hrc hrd
        have hrd1 := (Nat.max_le.mp hrd).1
        replace hrd := (Nat.max_le.mp hrd).2
        walk_at "q"
        refine WP.add_list (hnl' _) (.led .head) (by simp; lia) ?_
        intro B6
        walk_at "q"
        refine IH (sizeOf d) ?_ d rfl (hkd.mono fun a p k => k.kn) hb.kn (.led .head) (hxs.snoc n t) (hns.snoc hno) hdo hddi (by walk_at "om") (by simp; lia) (by walk_at "om") (by walk_at "om") ?_
        · exact Nat.lt_of_lt_of_eq (Nat.lt_of_lt_of_le Forest.szD hrs) h
        walk_at "q"
        exact .mk [] (sublist_of_mem (by simp)) (.mk r _ _ _ _ _ hkr hro hrdi (by lia) (by lia) (Nat.le_of_lt (Nat.lt_of_lt_of_le Forest.szR hrs)))
    · intro σ' K
      induction K with | mk r x3 x4 x5 x6 l0 hkr hrok hrdi hrc hrd hrs => ?_
      walk_at "q"
      exact ⟨[], List.nil_sublist _, H⟩
end Mine
end
section
open PySem PySem.W PyProof.Rows PySem.Calls PySem.Spec
namespace Mine
structure TreeOk (f : Forest) : Prop where
  ok : f.Ok
  dist : f.Dist
  ne : f ≠ .nil
  depth : f.depth ≤ 10
  count : f.count ≤ 200
noncomputable def TreeGives (c : Cx) (σ : Sg) (l : Addr) : Prop := ∀ {Q : Value → Sg → Prop}, (∀ f d ks led, TreeOk f → Kids (fun a p => (a, p) ∈ led) ks f → (d, lst ks) ∈ led → Q (.ref d) ⟨σ.vs, led ++ σ.news⟩) → WC c σ (.call (.ref 846) ⟨[.ref l], []⟩) Q
theorem Kids.sub {led led' : Led} {ks f} (h : Kids (fun a p => (a, p) ∈ led) ks f) (hs : ∀ q ∈ led, q ∈ led') : Kids (fun a p => (a, p) ∈ led') ks f := h.mono fun a p k => hs _ k
end Mine
end
section
open PySem PySem.W PyProof.Rows PySem.Calls PySem.Spec
namespace Mine
set_option tactic.hygienic true
theorem Above.len {C : Led} {a ps j m} (h : Above C a ps j m) : ps.length = j := by
  induction h with
  | top => rfl
  | under _ _ _ _ _ _ _ _ ih => simp [ih]
noncomputable def stackOf (a : Addr) (ps : List (Addr × List Value)) : List Value := (ps.map fun q => Value.ref q.1).reverse ++ [.ref a]
noncomputable def opens (a : Addr) (avs : List Value) (ps : List (Addr × List Value)) : Led := (a, lst avs) :: ps.map fun q => (q.1, lst q.2)
noncomputable def IntV (v : Value) : Prop := ∃ i t, v = .int i t
theorem ints_v {vs : List Value} {ns : List Int} (h : IntsAre vs ns) : ∀ v ∈ vs, IntV v := by
  induction h with
  | nil => intro v hv; cases hv
  | cons _ _ _ ih =>
    intro v hv
    rcases List.mem_cons.mp hv with rfl | hv
    · exact ⟨_, _, rfl⟩
    · exact ih v hv
inductive TreeAt (c : Cx) (l P G Tp Sk F : Addr) (pool gaps xs : List Value) (N : Nat) (rest : List Value) (σ : Sg) : Prop
  | mk (a : Addr) (avs : List Value) (ps : List (Addr × List Value)) (j m : Nat) (f : Forest) (C : Led) (x5 x6 x7 x8 x9 : Option Value) (e : σ = ⟨[some (.ref l), some (.ref P), some (.ref G), some (.ref Tp), some (.ref Sk), x5, x6, x7, x8, x9], (Sk, lst (stackOf a ps)) :: (opens a avs ps ++ C)⟩)
      (hP : (P, lst pool) ∈ C) (hG : (G, lst gaps) ∈ C) (hF : (F, lst xs) ∈ C) (hA : Above C a ps j m) (hK : KC C avs f) (hL : LvOk f j) (hB : bottom a ps = Tp) (hN : m + f.count + rest.length ≤ N) (hI : ∀ v ∈ rest, IntV v) (hE : rest.length < N → ps ≠ [] ∨ f ≠ .nil)
inductive PermTo (K : Sg → Prop) (σ : Sg) : Prop
  | mk (l : Led) (h : σ.news.Perm l) (k : K ⟨σ.vs, l⟩)
theorem WL.endsP {c : Cx} {σ : Sg} {env : Env} {qn qb qc : Sg → Prop} {qr : Value → Sg → Prop} {sts} (H : WL c σ env sts (PermTo qn) (fun v => PermTo (qr v)) (PermTo qb) (PermTo qc)) : WL c σ env sts qn qr qb qc := by
  refine WP.back (WP.mono H fun f s h => ?_)
  cases f <;> (obtain ⟨l, p, k⟩ := h; exact ⟨l, p, k⟩)
theorem WB.mono {c : Cx} {σ : Sg} {env : Env} {e : PySem.Expr} {qt qf qt' qf' : Sg → Prop} (H : WB c σ env e qt' qf') (h1 : ∀ s, qt' s → qt s) (h2 : ∀ s, qf' s → qf s) : WB c σ env e qt qf :=
  ⟨fun whole hw => (H.run whole hw).mono fun b s h => ⟨fun e => h1 _ (h.1 e), fun e => h2 _ (h.2 e)⟩⟩
theorem open_perm (e b i s x : Addr × Ob) (M C : Led) : (e :: b :: i :: s :: x :: (M ++ C)).Perm (i :: s :: b :: x :: (M ++ e :: C)) :=
  have h1 : (e :: b :: i :: s :: x :: (M ++ C)).Perm (b :: i :: s :: x :: (M ++ e :: C)) := (List.perm_middle (l₁ := b :: i :: s :: x :: M) (a := e) (l₂ := C)).symm
  have h2 : (b :: i :: s :: x :: (M ++ e :: C)).Perm (i :: s :: b :: x :: (M ++ e :: C)) := (List.perm_middle (l₁ := [i, s]) (a := b) (l₂ := x :: (M ++ e :: C))).symm
  h1.trans h2
theorem tree_wc {c : Cx} {σ : Sg} {l : Addr} {vs : List Value} {ns : List Int} (hl : Kn c σ l (lst vs)) (hi : IntsAre vs ns) (hlen : vs.length ≤ 4000) (hd : 20 ≤ c.dp) (hu : 100 ≤ c.un) : TreeGives c σ l := by
  intro Q H
  refine WC.pureCall ["script"] ["pool", "gaps", "top", "stack", "x", "y", "kids", "word", "below"] [.ref l] 10 50 ["script", "pool", "gaps", "top", "stack", "x", "y", "kids", "word", "below"] [some (.ref l), none, none, none, none, none, none, none, none, none] [("abs", .builtin "abs"), ("len", .builtin "len"), ("chr", .builtin "chr"), ("str", .type "str")] ⟨⟨_, _, _, by rfl⟩, by rfl, by kernel_rfl⟩ (.of_eq (by rfl)) (by walk_at "om") (by walk_at "om") ?_
  intro c' hw' hdp hun D hkeep hn
  have hl' : ∀ σ', Kn c' σ' l (lst vs) := fun σ' => hl.up hkeep hn
  walk_at "q"
  rename_i P _ _ _ _ _ _ _ G Tp Sk
  dsimp only
  generalize hgp : [Value.str (S (tx "")) _, Value.str (S (tx " ")) _, _, _] = gaps
  generalize hpo : [Value.str (S (tx "a")) _, Value.str (S (tx "it's")) _, _, _, _, _, _, _, _] = pool
  have hgs : Strs gaps [tx "", tx " ", tx "\n\t", tx "# },{'\n"] := by
    rw [← hgp]
    exact .cons (.cons (.cons (.cons .nil)))
  have hps : Strs pool [tx "a", tx "it's", tx "say \"b", tx "c d", tx "{", tx "},", tx "back\\", tx "#", tx ".."] := by
    rw [← hpo]
    exact .cons (.cons (.cons (.cons (.cons (.cons (.cons (.cons (.cons .nil))))))))
  clear hgp hpo
  refine WS.forL ?_
  walk_at "q"
  intro S0
  refine WP.uptoL (n := 20) (hl' _) (.led .head) (by walk_at "om") ?_
  intro F1
  walk_at "q"
  refine WP.back (WP.add_list (.led (.tail .head)) (.led .head) (by simp; lia) ?_)
  intro F
  refine ⟨_, (List.perm_append_comm (l₁ := [_, _, _, _]) (l₂ := [_, _])).append_right _, ?_⟩
  dsimp only [List.cons_append, List.nil_append]
  generalize hxs : vs.take 20 ++ _ = xs
  have hxl : xs.length ≤ 27 := by rw [← hxs]; simp; lia
  have hxp : 7 ≤ xs.length := by rw [← hxs]; simp
  have hxi : ∀ v ∈ xs, IntV v := by
    intro v hv
    rw [← hxs] at hv
    rcases List.mem_append.mp hv with h | h
    · exact ints_v hi v (List.mem_of_mem_take h)
    · simp only [List.mem_cons, List.not_mem_nil, or_false] at h
      rcases h with h | h | h | h | h | h | h <;> exact ⟨_, _, h⟩
  refine ⟨F, xs, TreeAt c' l P G Tp Sk F pool gaps xs xs.length, rfl, ⟨_, _, _, _, _, .nil, _, _, _, _, _, _, rfl, ?_, ?_, ?_, .top, .nil, .nil (by walk_at "om"), rfl, ?_, hxi, ?_⟩, ?_, ?_, ?_⟩
  · simp
  · simp
  · simp
  · simp [Forest.count]
  · intro h; exact absurd h (Nat.lt_irrefl _)
  · rintro rest σ' ⟨a, avs, ps, j, m, f, C, x5, x6, x7, x8, x9, rfl, hP, hG, hF, _⟩
    exact .led (.of_mem (.tail _ (List.mem_append_right _ hF)))
  · rintro v rest p I σ' ⟨a, avs, ps, j, m, f, C, x5, x6, x7, x8, x9, rfl, hP, hG, hF, hA, hK, hL, hB, hN, hI, hE⟩
    obtain ⟨i, ti, rfl⟩ := hI v (.head _)
    dsimp only
    have hps' := hA.len
    have hjd := hL.depth
    have hkl := hK.len
    have htl := Forest.top_le f
    simp only [List.length_cons] at hN
    have hstk : (stackOf a ps).length = ps.length + 1 := by simp [stackOf]
    have hlast : (stackOf a ps)[ps.length]? = some (.ref a) := by simp [stackOf]
    walk_at "q1"
    walk_at "q1"
    walk_at "q1"
    refine WL.cons (WS.cut (fun σ' => Ex2 fun (y : Nat) (ty : Tok) => σ' = ⟨[some (.ref l), some (.ref P), some (.ref G), some (.ref Tp), some (.ref Sk), some (.int i ti), some (.int (y : Nat) ty), x7, x8, x9], (I, p) :: (Sk, lst (stackOf a ps)) :: (opens a avs ps ++ C)⟩) ?_ ?_)
    · walk_at "q"
      refine WP.fdiv_int (by decide) (by decide) ?_
      intro tq
      walk_at "q"
      refine WP.abs_int ?_
      intro ty
      walk_at "q"
      exact ⟨_, _, rfl⟩
    rintro σ2 ⟨y, ty, rfl⟩
    refine WL.cons (WS.cut (fun σ' => σ' = ⟨[some (.ref l), some (.ref P), some (.ref G), some (.ref Tp), some (.ref Sk), some (.int i ti), some (.int (y : Nat) ty), some (.ref a), x8, x9], (I, p) :: (Sk, lst (stackOf a ps)) :: (opens a avs ps ++ C)⟩) ?_ ?_)
    · walk_at "q"
      refine WP.itemLneg (.led (.tail .head)) (by decide) (by walk_at "om") (by walk_at "om") (w := .ref a) (by rw [hstk]; have e : ((-1 : Int) + ((ps.length + 1 : Nat) : Int)).toNat = ps.length := (by walk_at "om"); rw [e, hlast]) ?_
      walk_at "q"
      rfl
    rintro σ2 rfl
    refine WL.cons (WS.If (WB.mono (qt' := fun σ' => ps ≠ [] ∧ σ' = ⟨[some (.ref l), some (.ref P), some (.ref G), some (.ref Tp), some (.ref Sk), some (.int i ti), some (.int (y : Nat) ty), some (.ref a), x8, x9], (I, p) :: (Sk, lst (stackOf a ps)) :: (opens a avs ps ++ C)⟩) (qf' := fun σ' => σ' = ⟨[some (.ref l), some (.ref P), some (.ref G), some (.ref Tp), some (.ref Sk), some (.int i ti), some (.int (y : Nat) ty), some (.ref a), x8, x9], (I, p) :: (Sk, lst (stackOf a ps)) :: (opens a avs ps ++ C)⟩) ?_ ?_ ?_))
    · walk_at "q"
      refine WP.fmod_int (by decide) ?_
      intro tm
      walk_at "q"
      refine ⟨fun hb => ?_, fun hb => ?_⟩
      · walk_at "q"
        refine WP.len_list (.led (.tail .head)) (by walk_at "om") ?_
        intro _
        walk_at "q"
        refine ⟨fun hb => ?_, fun hb => ?_⟩
        · walk_at "q"
          refine ⟨?_, rfl⟩
          rintro rfl
          rw [hstk] at hb
          simp at hb
        · rfl
      · rfl
    · rintro σ3 ⟨hne, rfl⟩
      cases hA with
      | top => exact absurd rfl hne
      | @under a p0 done ps f0 e n g w t u v j m h1 h2 h3 h4 h5 h6 h7 h8 =>
      have hj1 := h1.len
      walk_at "q"
      refine WP.gmL (name := "pop") (id := "list.pop") (.led (.tail .head)) PySem.F.slot_list_pop PySem.F.type_list_pop ?_
      walk_at "q"
      have hst0 : stackOf a ((p0, done ++ [.ref e]) :: ps) = stackOf p0 ps ++ [.ref a] := by simp [stackOf]
      rw [hst0]
      refine WP.back (WP.popL (vs := stackOf p0 ps) (v := .ref a) (.tail .head) (by simp [stackOf]; lia) ?_)
      refine ⟨(I, p) :: (Sk, lst (stackOf p0 ps)) :: (opens p0 (done ++ [.ref e]) ps ++ ((a, lst avs) :: C)), ?_, ?_⟩
      · exact ((List.perm_middle (l₁ := opens p0 (done ++ [.ref e]) ps) (a := (a, lst avs)) (l₂ := C)).symm.cons _).cons _
      walk_at "q"
      have hsub : ∀ q ∈ C, q ∈ (a, lst avs) :: C := fun q hq => .tail _ hq
      refine .mk _ (.refl _) ⟨p0, _, ps, j, m, _, (a, lst avs) :: C, _, _, _, _, _, rfl, .tail _ hP, .tail _ hG, .tail _ hF, h1.mono hsub, (h2.mono hsub).snocN (.tail _ h8) (.head _) (hK.mono hsub), h3.snocN hL h4 h5 h6 h7, hB, ?_, fun v hv => hI v (.tail _ hv), fun _ => .inr (snocN_ne _ _ _ _ _)⟩
      rw [snocN_count]; lia
    · rintro σ3 rfl
      refine WL.cons (WS.cut (fun σ' => Ex2 fun (word : T) (tw : Tok) => WordOk word ∧ σ' = ⟨[some (.ref l), some (.ref P), some (.ref G), some (.ref Tp), some (.ref Sk), some (.int i ti), some (.int (y : Nat) ty), some (.ref a), some (.str (S word) tw), x9], (I, p) :: (Sk, lst (stackOf a ps)) :: (opens a avs ps ++ C)⟩) ?_ ?_)
      · walk_at "q"
        refine WP.fmod_int (by decide) ?_
        intro tm
        walk_at "q"
        refine ⟨fun hb => ?_, fun hb => ?_⟩
        · walk_at "q"
          refine WP.fmod_int (by decide) ?_
          intro tm2
          rw [show (10 : Int) = ((10 : Nat) : Int) from rfl, fm_nat] at hb ⊢
          have hy9 : y % 10 < 9 := by
            have := of_decide_eq_true hb
            lia
          have hpl := hps.len
          have hpl9 : pool.length = 9 := hpl
          obtain ⟨wd, twd, hwd, hvd⟩ := hps.get (List.getElem?_eq_getElem (show y % 10 < pool.length by lia))
          refine WP.itemL (.led (.of_mem (.tail _ (.tail _ (List.mem_append_right _ hP))))) (by walk_at "om") (by walk_at "om") (w := .str (S wd) twd) (by rw [Int.toNat_natCast, List.getElem?_eq_getElem (by walk_at "om"), hvd]) ?_
          walk_at "q"
          exact ⟨wd, twd, pool_ok wd (List.mem_of_getElem? hwd), rfl⟩
        · walk_at "q"
          refine WP.fdiv_int (by decide) (by decide) ?_
          intro tm2
          walk_at "q"
          refine WP.fmod_int (by decide) ?_
          intro tm3
          walk_at "q"
          rw [show (120 : Int) = ((120 : Nat) : Int) from rfl, fd_nat, show (55238 : Int) = ((55238 : Nat) : Int) from rfl, fm_nat, show (58 : Int) + ((y / 120 % 55238 : Nat) : Int) = ((58 + y / 120 % 55238 : Nat) : Int) by lia]
          have hlt : y / 120 % 55238 < 55238 := Nat.mod_lt _ (by decide)
          refine WP.chr_int (by walk_at "om") ?_
          intro tc
          walk_at "q"
          exact ⟨_, tc, word_chr _ (by walk_at "om"), rfl⟩
      · rintro σ4 ⟨word, tw, hwo, rfl⟩
        refine WL.cons (WS.cut (fun σ' => (σ' = ⟨[some (.ref l), some (.ref P), some (.ref G), some (.ref Tp), some (.ref Sk), some (.int i ti), some (.int (y : Nat) ty), some (.ref a), some (.str (S word) tw), some .none], (I, p) :: (Sk, lst (stackOf a ps)) :: (opens a avs ps ++ C)⟩) ∨ (ps.length < 4 ∧ ∃ B, σ' = ⟨[some (.ref l), some (.ref P), some (.ref G), some (.ref Tp), some (.ref Sk), some (.int i ti), some (.int (y : Nat) ty), some (.ref a), some (.str (S word) tw), some (.ref B)], (B, lst []) :: (I, p) :: (Sk, lst (stackOf a ps)) :: (opens a avs ps ++ C)⟩)) ?_ ?_)
        · walk_at "q"
          refine WP.fmod_int (by decide) ?_
          intro tm
          walk_at "q"
          refine ⟨fun hb => ?_, fun hb => ?_⟩
          · walk_at "q"
            refine WP.len_list (.led (.tail .head)) (by walk_at "om") ?_
            intro _
            walk_at "q"
            refine ⟨fun hb => ?_, fun hb => ?_⟩
            · walk_at "q"
              refine .inr ⟨?_, _, rfl⟩
              rw [hstk] at hb
              have := of_decide_eq_true hb
              lia
            · walk_at "q"
              exact .inl rfl
          · walk_at "q"
            exact .inl rfl
        · rintro σ5 (rfl | ⟨hp4, B, rfl⟩)
          · simp only [opens, List.cons_append]
            refine WL.endsP ?_
            walk_at "q"
            refine WP.len_list (.led (.tail (.tail .head))) (by walk_at "om") ?_
            intro _
            walk_at "q"
            refine WP.str_int (by walk_at "om") ?_
            intro ts
            have hdl := (dg_ok avs.length (by walk_at "om")).2.1
            have hwl := hwo.short
            walk_at "q"
            refine WP.fdiv_int (by decide) (by decide) ?_
            intro td
            walk_at "q"
            refine WP.fmod_int (by decide) ?_
            intro td2
            walk_at "q"
            refine WP.fdiv_int (by decide) (by decide) ?_
            intro td3
            walk_at "q"
            refine WP.fmod_int (by decide) ?_
            intro td4
            walk_at "q"
            rw [show (30 : Int) = ((30 : Nat) : Int) from rfl, show (10 : Int) = ((10 : Nat) : Int) from rfl, fd_nat, fd_nat, show (4 : Int) = ((4 : Nat) : Int) from rfl, show (3 : Int) = ((3 : Nat) : Int) from rfl, fm_nat, fm_nat]
            have hgl4 : gaps.length = 4 := hgs.len
            have hy4 : y / 30 % 4 < 4 := Nat.mod_lt _ (by decide)
            have hy3 : y / 10 % 3 < 3 := Nat.mod_lt _ (by decide)
            obtain ⟨gp, tgp, hgp, hvg⟩ := hgs.get (List.getElem?_eq_getElem (show y / 30 % 4 < gaps.length by lia))
            have hgok : Gap gp := gap_ok gp (List.mem_of_getElem? hgp)
            refine WP.itemL (w := .str (S gp) tgp) (.led (.of_mem (.tail _ (.tail _ (.tail _ (List.mem_append_right _ hG)))))) (by walk_at "om") (by walk_at "om") (by rw [Int.toNat_natCast, List.getElem?_eq_getElem (by walk_at "om"), hvg]) ?_
            walk_at "q"
            rename_i E
            refine ⟨_, (List.perm_middle (l₁ := (I, p) :: (Sk, lst (stackOf a ps)) :: (a, lst (avs ++ [.ref E])) :: ps.map fun q => (q.1, lst q.2)) (a := (E, _)) (l₂ := C)).symm, ?_⟩
            walk_at "q"
            have hna : NameAt (word ++ dg avs.length) f.top := ⟨word, hwo, by rw [hkl]⟩
            refine .mk _ (.refl _) ⟨a, _, ps, j, m, _, _, _, _, _, _, _, rfl, .tail _ hP, .tail _ hG, .tail _ hF, hA.mono (fun _ hq => .tail _ hq), (hK.mono (fun _ hq => .tail _ hq)).snocL (.head _), hL.snocL (by walk_at "om") hna hy3 hgok (by simp only [Forest.depth]; lia), hB, ?_, fun v hv => hI v (.tail _ hv), fun _ => .inr (snocL_ne _ _ _ _)⟩
            rw [snocL_count]; lia
          · simp only [opens, List.cons_append]
            refine WL.endsP ?_
            walk_at "q"
            refine WP.len_list (.led (.tail (.tail (.tail .head)))) (by walk_at "om") ?_
            intro _
            walk_at "q"
            refine WP.str_int (by walk_at "om") ?_
            intro ts
            have hdl := (dg_ok avs.length (by walk_at "om")).2.1
            have hwl := hwo.short
            walk_at "q"
            refine WP.fdiv_int (by decide) (by decide) ?_
            intro td
            walk_at "q"
            refine WP.fmod_int (by decide) ?_
            intro td2
            walk_at "q"
            refine WP.fdiv_int (by decide) (by decide) ?_
            intro td3
            walk_at "q"
            refine WP.fmod_int (by decide) ?_
            intro td4
            walk_at "q"
            rw [show (30 : Int) = ((30 : Nat) : Int) from rfl, show (10 : Int) = ((10 : Nat) : Int) from rfl, fd_nat, fd_nat, show (4 : Int) = ((4 : Nat) : Int) from rfl, show (3 : Int) = ((3 : Nat) : Int) from rfl, fm_nat, fm_nat]
            have hgl4 : gaps.length = 4 := hgs.len
            have hy4 : y / 30 % 4 < 4 := Nat.mod_lt _ (by decide)
            have hy3 : y / 10 % 3 < 3 := Nat.mod_lt _ (by decide)
            obtain ⟨gp, tgp, hgp, hvg⟩ := hgs.get (List.getElem?_eq_getElem (show y / 30 % 4 < gaps.length by lia))
            have hgok : Gap gp := gap_ok gp (List.mem_of_getElem? hgp)
            refine WP.itemL (w := .str (S gp) tgp) (.led (.of_mem (.tail _ (.tail _ (.tail _ (.tail _ (List.mem_append_right _ hG))))))) (by walk_at "om") (by walk_at "om") (by rw [Int.toNat_natCast, List.getElem?_eq_getElem (by walk_at "om"), hvg]) ?_
            walk_at "q"
            rename_i E
            refine ⟨_, open_perm _ _ _ _ _ _ _, ?_⟩
            walk_at "q"
            have hna : NameAt (word ++ dg avs.length) f.top := ⟨word, hwo, by rw [hkl]⟩
            have hst1 : stackOf a ps ++ [.ref B] = stackOf B ((a, avs ++ [.ref E]) :: ps) := by simp [stackOf]
            rw [hst1]
            refine .mk _ (.refl _) ⟨B, [], (a, avs ++ [.ref E]) :: ps, j + 1, _, .nil, (E, _) :: C, _, _, _, _, _, rfl, .tail _ hP, .tail _ hG, .tail _ hF, .under (hA.mono (fun _ hq => .tail _ hq)) (hK.mono (fun _ hq => .tail _ hq)) hL (by walk_at "om") hna hy3 hgok (.head _), .nil, .nil (by walk_at "om"), hB, ?_, fun v hv => hI v (.tail _ hv), fun _ => .inl (by simp)⟩
            simp only [Forest.count]; lia
  · rintro σ' ⟨a, avs, ps, j, m, f, C, x5, x6, x7, x8, x9, rfl, hP, hG, hF, hA, hK, hL, hB, hN, hI, hE⟩
    walk_at "q"
    obtain ⟨ks, FF, k1, k2, k3, k4, k5⟩ := (hA.mono (C' := opens a avs ps ++ C) (fun q hq => List.mem_append_right _ hq)).close (hK.mono (fun q hq => List.mem_append_right _ hq)) hL (fun q hq => List.mem_append_left _ (.tail _ (List.mem_map.mpr ⟨q, hq, rfl⟩))) (List.mem_append_left _ (.head _))
    refine ⟨opens a avs ps ++ C, .cons _ (.refl _), ?_⟩
    rw [hB] at k2
    simp only [List.length_nil] at hN hE
    exact H FF Tp ks _ ⟨k3.ok, k3.dist, k5 (hE (by walk_at "om")), by have := k3.depth; lia, by lia⟩ k1 k2
end Mine
end
section
open PySem PySem.W PyProof.Rows PySem.Calls PySem.Spec
namespace Mine
theorem WC.top {w : World} {h : Heap} {g : Array GenState} {d : Drawn} {tk : Nat} {os : OsState} {A : Around} {f : Addr} {fd : FuncData} {body : List Stmt} {args : Args} {K : Value → Prop} (ps rest : List Str) (vals : List Value) (dp un : Nat) (nss : List Str) (vss : List (Option Value)) (gs : List (Str × Value)) (hf : FnAt w f fd body nss gs) (hb : BindsOk w fd args (ps.zip vals)) (B : Base w h) (hA : A.handled = none) (hd : A.depth + 1 + dp < recursionLimit) (hu : A.units + 3 + un < cLine) (hp : 0 < (ps.zip vals).length)
    (H : ∀ c' : Cx, c'.w = w → c'.dp = dp → c'.un = un → c'.h₀ = h → EnvOk c' nss gs → WL c' ⟨vss, []⟩ c'.env body (fun _ => K .none) (fun v _ => K v) (fun _ => K .none) (fun _ => K .none))
    (hns : nss = ps ++ rest := by rfl) (hvs : vss = vals.map some ++ rest.map (fun _ => none) := by rfl) (hl : ps.length = vals.length := by rfl) :
    codeAny (model PR w) A (.call (.ref f) args) (fun r s' => ∃ v, r = .ok (.ret v) ∧ K v ∧ ∃ h' tk', s' = ⟨h', g, d, tk', os⟩ ∧ ∀ b o, h.get? b = some o → h'.get? b = some o) ⟨h, g, d, tk, os⟩ := by
  subst hns hvs
  obtain ⟨⟨k1, k2, k3, k4⟩, ⟨l1, l2⟩, g1, e1, e2, e3⟩ := fnChk_cut hf.chk
  obtain ⟨oc, od, osl, ho⟩ := hf.here
  have hns : ps.Nodup := (List.nodup_append.mp l2).1
  refine codeAny_call_def (s := ⟨h, g, d, tk, os⟩) (by walk_at "om") (B.k _ _ ho) rfl B.nl (codeRec_of B.k e3) hf.body (hb _ _ _ _ _ B) k4
    (fun x hx => (l1 x.1 (List.mem_append_left _ (mem_zip_fst hx))).1) (fun h₁ hn hk => ?_) k2 k3 k1
  dsimp only at hn hk ⊢
  let c' : Cx := { w := w, h₀ := h, base := B, env := callEnv fd h.objs.size f, L := h.objs.size, ns := ps ++ rest, dp := dp, un := un, g := g, d := d, os := os }
  have D : EnvOk c' (ps ++ rest) gs := ⟨rfl, l2, k1, rfl, l1, g1, e1, e2⟩
  rw [slots_of_binds rest ps vals hns hl] at hn
  have S' : St c' ⟨vals.map some ++ rest.map (fun _ => none), []⟩ h₁ := ⟨⟨hn, hk, Nat.le_refl _⟩, fun _ hp => (nomatch hp), List.nodup_nil⟩
  have R' : Room (A.deeper (callEnv fd h.objs.size f)) dp un := by
    refine ⟨hA, ?_, ?_⟩
    · show A.depth + 1 + dp < _; lia
    · show A.units + 3 + un < _; lia
  refine wpAny_mono ((WL.wp (K := fun v _ => K v) (H c' rfl rfl rfl rfl D)).run _ h₁ _ R' S' (Nat.lt_of_lt_of_le hp (Nat.le_add_left ..))) ?_ (fun _ _ e => e.elim)
  rintro fl _ ⟨h2, tk2, σ2, rfl, S2, p2, hq⟩
  cases fl <;> exact ⟨_, rfl, hq, _, _, rfl, S2.keep⟩
theorem law_top {w : World} {h : Heap} {g : Array GenState} {d : Drawn} {tk : Nat} {os : OsState} {A : Around} {l : Addr} {o : Obj} {vs : List Value} {ns : List Int} (B : Base w h) (hA : A.handled = none) (hd : A.depth + 50 < recursionLimit) (hu : A.units + 800 < cLine) (ho : h.get? l = some o) (hlo : lst vs o) (hi : IntsAre vs ns) (hlen : vs.length ≤ 4000) :
    codeAny (model PR w) A (.call (.ref 912) ⟨[.ref l], []⟩) (fun r s' => ∃ v, r = .ok (.ret v) ∧ v = .bool true ∧ ∃ h' tk', s' = ⟨h', g, d, tk', os⟩ ∧ ∀ b o, h.get? b = some o → h'.get? b = some o) ⟨h, g, d, tk, os⟩ := by
  refine WC.top (K := fun v => v = .bool true) ["script"] ["tree", "due", "rows", "text"] [.ref l] 40 700 ["script", "tree", "due", "rows", "text"] [some (.ref l), none, none, none, none] [("_law_tree", .ref 846), ("_law_due", .ref 872), ("_law_read", .ref 886), ("_law_free", .ref 858), ("_law_stems", .ref 905), ("_law_back", .ref 893), ("_law_plain", .ref 865)] ⟨⟨_, _, _, by rfl⟩, by rfl, by kernel_rfl⟩ (.of_eq (by rfl)) B hA (by walk_at "om") (by walk_at "om") (Nat.zero_lt_one) ?_
  intro c' hw' hdp hun hh D
  walk_at "q"
  refine tree_wc (.old o (by rw [hh, ho]) hlo) hi hlen (by walk_at "om") (by walk_at "om") ?_
  intro f d ks led hf hk hdl
  have hms := Forest.mass_le f
  have hms1 := rowsF_sum f hf.ok
  have hms2 := rowsP_sum f hf.ok
  have hfl := wrapF_len (g := []) (by simp) (rowsF f)
  have hpl := wrapP_len (rowsP f)
  have hcn := hf.count
  have hdp' := hf.depth
  have htl := Forest.top_le f
  have htx : tx "" = [] := rfl
  have hkn : ∀ vs pre, Kids (Kno c' ⟨vs, pre ++ (led ++ [])⟩) ks f := fun vs pre => hk.mono fun a p h => .led (.of_mem (List.mem_append_right _ (List.mem_append_left _ h)))
  have hdn : ∀ vs pre, Kn c' ⟨vs, pre ++ (led ++ [])⟩ d (lst ks) := fun vs pre => .led (.of_mem (List.mem_append_right _ (List.mem_append_left _ hdl)))
  walk_at "q"
  refine due_wc f (hkn _ []) (hdn _ []) hf.ok hcn (by rw [htx]; simp; lia) (by walk_at "om") (by walk_at "om") ?_
  intro R ys hys
  rw [htx] at hys
  walk_at "q"
  refine free_wc f (hkn _ [_]) (hdn _ [_]) hf.ok hcn (.inl rfl) (by walk_at "om") (by walk_at "om") ?_
  intro tf
  rw [htx]
  walk_at "q"
  refine read_wc (by unfold freeF; lia) (free_go f hf.ok hf.ne) (tree_steps f hf.ok hf.ne (by walk_at "om") hcn) (by walk_at "om") (by walk_at "om") ?_
  intro R2 zs hzs
  walk_at "q"
  refine WP.neSame (.led .head) (.led (.tail .head)) hzs hys ?_
  walk_at "q"
  refine stems_wc f (hkn _ [_, _, _]) (hdn _ [_, _, _]) (.led .head) .nil NamesOk.nil hf.ok hf.dist hcn (by simp; lia) (by walk_at "om") (by walk_at "om") ?_
  walk_at "q"
  have hbp := back_plain f hf.ok hf.dist hf.ne
  have hdl0 : dueF f [] = (locF f []).map rowOf := due_locF f [] hf.ok NamesOk.nil
  have hll : (locF f []).length ≤ 201 := by
    have h1 := dueR_len f []
    have h2 := oneIf_len f []
    have := congrArg List.length hdl0
    unfold dueF at this
    rw [List.length_append, List.length_map] at this
    lia
  refine back_wc (locs := locF f []) (.led (.tail .head)) (hdl0 ▸ hzs) ?_ (by walk_at "om") (by rw [hbp]; unfold plainF; lia) (by walk_at "om") (by walk_at "om") ?_
  · intro p hp
    have hlo := loc_okF f [] hf.ok NamesOk.nil p hp
    have h1 := row_len hlo
    have h2 := loc_deepF f [] p hp
    have h3 : ([] : List T).length = 0 := rfl
    exact ⟨hlo, by lia⟩
  intro u5
  rw [hbp]
  walk_at "q"
  refine WP.xAnd2 ?_
  walk_at "q"
  refine plain_wc f (hkn _ [_, _, _]) (hdn _ [_, _, _]) hf.ok hcn (by walk_at "om") (by walk_at "om") ?_
  intro u6
  walk_at "q"
  refine ⟨by simp, ?_⟩
  walk_at "q"
  refine read_wc (by unfold plainF; lia) (plain_go f hf.ok hf.ne) (tree_steps f hf.ok hf.ne (by walk_at "om") hcn) (by walk_at "om") (by walk_at "om") ?_
  intro R3 zs3 hzs3
  walk_at "q"
  refine WP.eqSame (.led .head) (.led (.tail (.tail (.tail .head)))) hzs3 hys ?_
  rfl
end Mine
end
section
open PySem PySem.W PyProof.Rows PySem.Calls PySem.Spec
namespace Mine
set_option tactic.hygienic true
theorem toArray_same {α : Type} {a b : List α} (h : a.toArray = b.toArray) : a = b := congrArg Array.toList h
theorem ints_le {vs : List Value} {ns : List Int} (hI : IntsAre vs ns) (hc : ¬ ((63 : Nat) : Int) < ((ns.length : Nat) : Int)) : vs.length ≤ 4000 := by
  have := hI.sizeZ
  rw [List.size_toArray] at this
  lia
theorem joined0 (w : World) (P : List WData → List Value → Shared → Prop) (s₀ s₁ : Shared) (hg : s₁.gens = #[]) (B : Base w s₁.heap) (args : List WData) (vals : List Value) (as : List Addr) (hpre : MineH.rwl.row.claim.pre args = true) (hlay : WData.layableAll args = true) (hrd : ReadsAllW MineH.rwl.row.records (classAt s₀.heap) s₁.heap vals args as) (hwl : WellAll w.params s₁.heap vals args) (hlo : ∀ a ∈ as, (a == sysModules) = false)
    (K : ∀ (args : List WData) (l : Addr) (o : Obj) (vs : List Value) (ns : List Int) (h : Heap) (d : Drawn) (tk : Nat) (os : OsState), Base w h → h.get? l = some o → lst vs o → IntsAre vs ns → vs.length ≤ 4000 → P args [.ref l] ⟨h, #[], d, tk, os⟩) : P args vals s₁ := by
  wrow_args hpre hlay hrd hwl hlo
  rename_i hL _ hW _ hI _ hc _
  have hlen := ints_le hI hc
  obtain ⟨h, g, d, tk, os⟩ := s₁
  dsimp only at *
  subst hg
  cases hW with
  | list ho hW =>
    rename_i vs'
    obtain ⟨oL, hoL, _, n, hd⟩ := hL
    rw [ho] at hoL
    cases hoL
    injection hd with h1 _
    have e2 := toArray_same h1
    subst e2
    exact K _ _ _ _ _ _ _ _ _ B ho ⟨_, rfl⟩ hI hlen
theorem joined (w : World) : ∀ (s₀ s₁ : Shared) (mg mb : Str → Option Value), Ground MineH.qq MineH.loose MineH.rwl.row.records (fun _ _ => True) w s₀ mg mb s₁.heap → (MineH.frag w.params).In s₁.heap → ∀ fa : Addr, mg "law" = some (.ref fa) → s₁.gens = #[] → ∀ (args : List WData) (vals : List Value) (as : List Addr), MineH.rwl.row.claim.pre args = true → WData.layableAll args = true → ReadsAllW MineH.rwl.row.records (classAt s₀.heap) s₁.heap vals args as → WellAll w.params s₁.heap vals args → (∀ a ∈ as, (a == sysModules) = false) →
      wpAny (model MineH.rwl.row.prog w) callerA (PySem.call (.ref fa) vals) (fun v s' => GoodWG MineH.rwl.row.claim (classAt s₀.heap) (ExcName.means s₀.heap) args s₁ (.ok (.ret v)) s')
        (fun e s' => GoodWG MineH.rwl.row.claim (classAt s₀.heap) (ExcName.means s₀.heap) args s₁ (.error e) s') s₁ := by
  intro s₀ s₁ mg mb G Y fa hmg hg args vals as hpre hlay hrd hwl hlo
  have e := hmg.symm.trans (mg_of Y G.T.g (n := "law") (v := .ref 912) (by kernel_rfl))
  injection e with e
  injection e with e
  rw [e]
  refine joined0 w (fun args vals s₁ => wpAny (model MineH.rwl.row.prog w) callerA (PySem.call (.ref 912) vals) (fun v s' => GoodWG MineH.rwl.row.claim (classAt s₀.heap) (ExcName.means s₀.heap) args s₁ (.ok (.ret v)) s') (fun e s' => GoodWG MineH.rwl.row.claim (classAt s₀.heap) (ExcName.means s₀.heap) args s₁ (.error e) s') s₁) s₀ s₁ hg ⟨Y, G.T.nolimit, ⟨mb, G.T.b, G.T.builtins⟩, ⟨mg, G.T.g⟩⟩ args vals as hpre hlay hrd hwl hlo ?_
  intro args l o vs ns h d tk os B ho hl hI hlen
  refine wpAny_call (codeAny_mono (law_top B rfl (by decide) (by decide) ho hl hI hlen) ?_)
  rintro r s' ⟨v, rfl, rfl, h', tk', rfl, hk⟩
  exact ⟨.inl ⟨_, _, [], rfl, fun _ => rfl, ReadsW.bool true, by first | rfl | wrow_post, fun _ => ⟨List.nodup_nil, fun _ hm => (nomatch hm)⟩⟩, .of_keep hk, rfl, .of_eq rfl⟩
end Mine
end
end
set_option maxRecDepth 100000 in
set_option maxHeartbeats 8000000 in
theorem PySem.Challenge.cw_kl0187_01_holds : PySem.Challenge.rw_kl0187_01.Holds := by
  refine MineH.holds_of (by rfl) (by rfl) (by rfl) ?_
  intro w s₀ s₁ mg mb G Y fa o pm cd doc dV kV ho hd hcd hD hmg hg args vals as hpre hlay hrd hwl hlo
  exact Mine.joined w s₀ s₁ mg mb G Y fa hmg hg args vals as hpre hlay hrd hwl hlo
