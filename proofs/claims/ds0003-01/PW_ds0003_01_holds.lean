import PyProof.Rows.All
import Wide.All
import OpenK.AllK
import Open.Tops
import PySem.Challenge.RW_ds0003_01
set_option Elab.async false
set_option linter.unusedVariables false
set_option linter.unusedSimpArgs false
namespace Mine
section
open PySem PySem.W PySem.Calls PyProof.Rows
set_option maxRecDepth 100000
set_option maxHeartbeats 0
set_option linter.unusedVariables false
abbrev pw : Program := PySem.Challenge.pw_ds0003_01
def B : List Stmt := behindTheImports pw
def fnBody : Stmt → List Stmt
  | .FunctionDef _ _ body _ _ _ _ _ _ _ => body
  | _ => []
def fnScope : Stmt → Scope
  | .FunctionDef _ _ _ _ _ _ sc _ _ _ => sc
  | _ => default
abbrev fnParams : Stmt → Arguments
  | .FunctionDef _ ps _ _ _ _ _ _ _ _ => ps
  | _ => default
def clsBody : Stmt → List Stmt
  | .ClassDef _ _ _ body _ _ _ _ _ _ _ => body
  | _ => []
def st (i : Nat) : Stmt := (B[i]?).getD default
def cst (i j : Nat) : Stmt := ((clsBody (st i))[j]?).getD default
noncomputable def pre.env_1 : Env := Env.mk (Module.scope (Program.main PySem.Challenge.pw_ds0003_01)) mainNs mainNs [] Str.empty none (Value.ref 31) (some 32) 0
noncomputable def pre.o_1 : Params → Obj := boot_o_0
noncomputable def pre.o_2 (P : Params) : Obj := (Obj.mk (Value.type "dict") none (Data.dict #[(DictEntry.mk (PyData.keyHash P (Str.ofString "builtins")) (Value.str (Str.ofString "builtins") (162 : Nat)) (Value.ref (4 : Nat))), (DictEntry.mk (PyData.keyHash P (Str.ofString "__main__")) (Value.str (Str.ofString "__main__") (163 : Nat)) (Value.ref (5 : Nat))), (DictEntry.mk (PyData.keyHash P (Str.ofString "_collections")) (Value.str (Str.ofString "_collections") (246 : Nat)) (Value.ref (13 : Nat)))] (3 : Nat)) #[])
noncomputable def pre.o_3 (P : Params) : Obj := (Obj.mk Value.none none (Data.dict #[(DictEntry.mk (PyData.keyHash P (Str.ofString "\x69mport.loaded._collections")) (Value.str (Str.ofString "\x69mport.loaded._collections") (185 : Nat)) (Value.bool true)), (DictEntry.mk (PyData.keyHash P (Str.ofString "class._frozen_importlib.BuiltinImporter")) (Value.str (Str.ofString "class._frozen_importlib.BuiltinImporter") (187 : Nat)) (Value.ref (15 : Nat))), (DictEntry.mk (PyData.keyHash P (Str.ofString "watched.\x69mport")) (Value.str (Str.ofString "watched.\x69mport") (208 : Nat)) (Value.ref (19 : Nat))), (DictEntry.mk (PyData.keyHash P (Str.ofString "class._frozen_importlib.ModuleSpec")) (Value.str (Str.ofString "class._frozen_importlib.ModuleSpec") (218 : Nat)) (Value.ref (23 : Nat))), (DictEntry.mk (PyData.keyHash P (Str.ofString "sys.modules.booked-epoch")) (Value.str (Str.ofString "sys.modules.booked-epoch") (247 : Nat)) (Value.int (3 : Int) (0 : Nat))), (DictEntry.mk (PyData.keyHash P (Str.ofString "sys.modules.landed._collections")) (Value.str (Str.ofString "sys.modules.landed._collections") (248 : Nat)) (Value.bool true)), (DictEntry.mk (PyData.keyHash P (Str.ofString "\x69mport.later-laid._collections")) (Value.str (Str.ofString "\x69mport.later-laid._collections") (263 : Nat)) (Value.bool true)), (DictEntry.mk (PyData.keyHash P (Str.ofString "watched.library")) (Value.str (Str.ofString "watched.library") (265 : Nat)) (Value.ref (28 : Nat))), (DictEntry.mk (PyData.keyHash P (Str.ofString "watched.library-objects")) (Value.str (Str.ofString "watched.library-objects") (0 : Nat)) (Value.str (Str.ofString "\x0d") (0 : Nat))), (DictEntry.mk (PyData.keyHash P (Str.ofString "watched.library-deep._collections")) (Value.str (Str.ofString "watched.library-deep._collections") (266 : Nat)) (Value.str (Str.ofString "\x04\x00\x00\x0c\x04\x00\x00\x0c\x04\x00\x00\x03\x04\x00\x00\x0c\x08\x04dict\x02") (0 : Nat)))] (10 : Nat)) #[])
noncomputable def pre.o_4 (P : Params) : Obj := (Obj.mk (Value.type "dict") none (Data.dict #[(DictEntry.mk (PyData.keyHash P (Str.ofString "__name__")) (Value.str (Str.ofString "__name__") (165 : Nat)) (Value.str (Str.ofString "__main__") (164 : Nat))), (DictEntry.mk (PyData.keyHash P (Str.ofString "__doc__")) (Value.str (Str.ofString "__doc__") (166 : Nat)) Value.none), (DictEntry.mk (PyData.keyHash P (Str.ofString "__package__")) (Value.str (Str.ofString "__package__") (167 : Nat)) Value.none), (DictEntry.mk (PyData.keyHash P (Str.ofString "__loader__")) (Value.str (Str.ofString "__loader__") (168 : Nat)) (Value.builtin "__main__.__loader__#opaque")), (DictEntry.mk (PyData.keyHash P (Str.ofString "__spec__")) (Value.str (Str.ofString "__spec__") (169 : Nat)) Value.none), (DictEntry.mk (PyData.keyHash P (Str.ofString "__annotations__")) (Value.str (Str.ofString "__annotations__") (170 : Nat)) (Value.ref (6 : Nat))), (DictEntry.mk (PyData.keyHash P (Str.ofString "__builtins__")) (Value.str (Str.ofString "__builtins__") (171 : Nat)) (Value.ref (4 : Nat))), (DictEntry.mk (PyData.keyHash P (Str.ofString "__file__")) (Value.str (Str.ofString "__file__") (173 : Nat)) (Value.str (Str.ofString "/claim/cut.py") (172 : Nat))), (DictEntry.mk (PyData.keyHash P (Str.ofString "__cached__")) (Value.str (Str.ofString "__cached__") (174 : Nat)) Value.none), (DictEntry.mk (PyData.keyHash P (Str.ofString "deque")) (Value.str (Str.ofString "deque") (272 : Nat)) (Value.type "collections.deque"))] (10 : Nat)) #[])
noncomputable def pre.o_5 : Params → Obj := boot_o_4
noncomputable def pre.o_6 : Params → Obj := boot_o_5
noncomputable def pre.o_7 : Params → Obj := boot_o_6
noncomputable def pre.o_8 : Params → Obj := boot_o_7
noncomputable def pre.o_9 : Params → Obj := boot_o_8
noncomputable def pre.o_10 : Params → Obj := boot_o_9
noncomputable def pre.o_11 : Params → Obj := boot_o_10
noncomputable def pre.o_12 (P : Params) : Obj := (Obj.mk (Value.type "tuple") none (Data.seq #[(Value.str (Str.ofString "deque") (182 : Nat))] (0 : Nat)) #[])
noncomputable def pre.o_13 (P : Params) : Obj := (Obj.mk (Value.type "dict") none (Data.dict #[(DictEntry.mk (PyData.keyHash P (Str.ofString "__name__")) (Value.str (Str.ofString "__name__") (250 : Nat)) (Value.str (Str.ofString "_collections") (249 : Nat))), (DictEntry.mk (PyData.keyHash P (Str.ofString "__doc__")) (Value.str (Str.ofString "__doc__") (251 : Nat)) (Value.builtin "off-the-table:_collections.__doc__:shared#opaque")), (DictEntry.mk (PyData.keyHash P (Str.ofString "__package__")) (Value.str (Str.ofString "__package__") (253 : Nat)) (Value.str (Str.ofString "") (252 : Nat))), (DictEntry.mk (PyData.keyHash P (Str.ofString "__loader__")) (Value.str (Str.ofString "__loader__") (254 : Nat)) (Value.builtin "off-the-table:_collections.__loader__:shared#opaque")), (DictEntry.mk (PyData.keyHash P (Str.ofString "__spec__")) (Value.str (Str.ofString "__spec__") (255 : Nat)) (Value.builtin "off-the-table:_collections.__spec__:shared#opaque")), (DictEntry.mk (PyData.keyHash P (Str.ofString "_count_elements")) (Value.str (Str.ofString "_count_elements") (256 : Nat)) (Value.builtin "_collections._count_elements")), (DictEntry.mk (PyData.keyHash P (Str.ofString "deque")) (Value.str (Str.ofString "deque") (257 : Nat)) (Value.type "collections.deque")), (DictEntry.mk (PyData.keyHash P (Str.ofString "defaultdict")) (Value.str (Str.ofString "defaultdict") (258 : Nat)) (Value.type "collections.defaultdict")), (DictEntry.mk (PyData.keyHash P (Str.ofString "_deque_iterator")) (Value.str (Str.ofString "_deque_iterator") (259 : Nat)) (Value.builtin "off-the-table:_collections._deque_iterator:shared#opaque")), (DictEntry.mk (PyData.keyHash P (Str.ofString "_deque_reverse_iterator")) (Value.str (Str.ofString "_deque_reverse_iterator") (260 : Nat)) (Value.builtin "off-the-table:_collections._deque_reverse_iterator:shared#opaque")), (DictEntry.mk (PyData.keyHash P (Str.ofString "_tuplegetter")) (Value.str (Str.ofString "_tuplegetter") (261 : Nat)) (Value.type "collections._tuplegetter")), (DictEntry.mk (PyData.keyHash P (Str.ofString "OrderedDict")) (Value.str (Str.ofString "OrderedDict") (262 : Nat)) (Value.type "collections.OrderedDict"))] (12 : Nat)) #[])
noncomputable def pre.o_14 (P : Params) : Obj := (Obj.mk (Value.type "module") (Option.some (12 : Nat)) Data.plain #[])
noncomputable def pre.o_15 (P : Params) : Obj := (Obj.mk (Value.type "dict") none (Data.dict #[(DictEntry.mk (PyData.keyHash P (Str.ofString "__module__")) (Value.str (Str.ofString "__module__") (191 : Nat)) (Value.str (Str.ofString "_frozen_importlib") (188 : Nat))), (DictEntry.mk (PyData.keyHash P (Str.ofString "__firstlineno__")) (Value.str (Str.ofString "__firstlineno__") (192 : Nat)) (Value.int (971 : Int) (189 : Nat))), (DictEntry.mk (PyData.keyHash P (Str.ofString "__doc__")) (Value.str (Str.ofString "__doc__") (193 : Nat)) (Value.builtin "_frozen_importlib.BuiltinImporter.__doc__:str#opaque")), (DictEntry.mk (PyData.keyHash P (Str.ofString "_ORIGIN")) (Value.str (Str.ofString "_ORIGIN") (194 : Nat)) (Value.str (Str.ofString "built-in") (190 : Nat))), (DictEntry.mk (PyData.keyHash P (Str.ofString "find_spec")) (Value.str (Str.ofString "find_spec") (195 : Nat)) (Value.builtin "_frozen_importlib.BuiltinImporter.find_spec#opaque")), (DictEntry.mk (PyData.keyHash P (Str.ofString "create_module")) (Value.str (Str.ofString "create_module") (196 : Nat)) (Value.builtin "_frozen_importlib.BuiltinImporter.create_module#opaque")), (DictEntry.mk (PyData.keyHash P (Str.ofString "exec_module")) (Value.str (Str.ofString "exec_module") (197 : Nat)) (Value.builtin "_frozen_importlib.BuiltinImporter.exec_module#opaque")), (DictEntry.mk (PyData.keyHash P (Str.ofString "get_code")) (Value.str (Str.ofString "get_code") (198 : Nat)) (Value.builtin "_frozen_importlib.BuiltinImporter.get_code#opaque")), (DictEntry.mk (PyData.keyHash P (Str.ofString "get_source")) (Value.str (Str.ofString "get_source") (199 : Nat)) (Value.builtin "_frozen_importlib.BuiltinImporter.get_source#opaque")), (DictEntry.mk (PyData.keyHash P (Str.ofString "is_package")) (Value.str (Str.ofString "is_package") (200 : Nat)) (Value.builtin "_frozen_importlib.BuiltinImporter.is_package#opaque")), (DictEntry.mk (PyData.keyHash P (Str.ofString "load_module")) (Value.str (Str.ofString "load_module") (201 : Nat)) (Value.builtin "_frozen_importlib.BuiltinImporter.load_module#opaque")), (DictEntry.mk (PyData.keyHash P (Str.ofString "__static_attributes__")) (Value.str (Str.ofString "__static_attributes__") (202 : Nat)) (Value.ref (16 : Nat))), (DictEntry.mk (PyData.keyHash P (Str.ofString "__dict__")) (Value.str (Str.ofString "__dict__") (204 : Nat)) (Value.ref (17 : Nat))), (DictEntry.mk (PyData.keyHash P (Str.ofString "__weakref__")) (Value.str (Str.ofString "__weakref__") (206 : Nat)) (Value.ref (18 : Nat)))] (14 : Nat)) #[])
noncomputable def pre.o_16 (P : Params) : Obj := (Obj.mk (Value.type "type") none (Data.cls (ClassData.mk (Str.ofString "BuiltinImporter") [(Value.type "object")] [(Value.ref (15 : Nat)), (Value.type "object")] (14 : Nat) (Str.ofString "BuiltinImporter") true [] [] false none false)) #[])
noncomputable def pre.o_17 : Params → Obj := boot_o_7
noncomputable def pre.o_18 (P : Params) : Obj := (Obj.mk (Value.type "getset_descriptor") none (Data.fields #[(Value.str (Str.ofString "__dict__") (203 : Nat)), (Value.ref (15 : Nat)), (Value.builtin "function.__dict__"), (Value.builtin "function.__dict__#set")]) #[])
noncomputable def pre.o_19 (P : Params) : Obj := (Obj.mk (Value.type "getset_descriptor") none (Data.fields #[(Value.str (Str.ofString "__weakref__") (205 : Nat)), (Value.ref (15 : Nat)), (Value.builtin "ExceptionGroup.__weakref__"), Value.none]) #[])
noncomputable def pre.o_20 (P : Params) : Obj := (Obj.mk Value.none none (Data.seq #[(Value.int (14 : Int) (0 : Nat)), (Value.str (Str.ofString "\x06\xbf\n__module__\x06\xbc\x11_frozen_importlib\x06\xc0\x0f__firstlineno__\x04\xbd\x00\u03cb\x06\xc1\x07__doc__\t4_frozen_importlib.BuiltinImporter.__doc__:str#opaque\x06\xc2\x07_ORIGIN\x06\xbe\x08built-in\x06\xc3\tfind_spec\t2_frozen_importlib.BuiltinImporter.find_spec#opaque\x06\xc4\x0dcreate_module\t6_frozen_importlib.BuiltinImporter.create_module#opaque\x06\xc5\x0bexec_module\t4_frozen_importlib.BuiltinImporter.exec_module#opaque\x06\xc6\x08get_code\t1_frozen_importlib.BuiltinImporter.get_code#opaque\x06\xc7\nget_source\t3_frozen_importlib.BuiltinImporter.get_source#opaque\x06\xc8\nis_package\t3_frozen_importlib.BuiltinImporter.is_package#opaque\x06\xc9\x0bload_module\t4_frozen_importlib.BuiltinImporter.load_module#opaque\x06\xca\x15__static_attributes__\x04\x00\x00\x10\x06\xcc\x08__dict__\x04\x00\x00\x11\x06\xce\x0b__weakref__\x04\x00\x00\x12") (0 : Nat)), (Value.bool true), (Value.bool true), (Value.str (Str.ofString "") (207 : Nat)), (Value.int (22 : Int) (0 : Nat)), (Value.str (Str.ofString "\x06\xe5\n__module__\x06\xdb\x11_frozen_importlib\x06\xe6\x0f__firstlineno__\x04\xdc\x00\u0232\x06\xe7\x07__doc__\t/_frozen_importlib.ModuleSpec.__doc__:str#opaque\x06\xe8\x08__init__\t,_frozen_importlib.ModuleSpec.__init__#opaque\x06\xe9\x08__repr__\t,_frozen_importlib.ModuleSpec.__repr__#opaque\x06\xea\x06__eq__\t*_frozen_importlib.ModuleSpec.__eq__#opaque\x06\xeb\x06cached\t*_frozen_importlib.ModuleSpec.cached#opaque\x06\xec\x06parent\t*_frozen_importlib.ModuleSpec.parent#opaque\x06\xed\x0chas_location\t0_frozen_importlib.ModuleSpec.has_location#opaque\x06\xee\x15__static_attributes__\x04\x00\x00\x18\x06\xf0\x08__dict__\x04\x00\x00\x19\x06\xf2\x0b__weakref__\x04\x00\x00\x1a\x06\xf3\x08__hash__\x00") (0 : Nat)), (Value.bool true), (Value.bool true), (Value.str (Str.ofString "") (244 : Nat))] (1 : Nat)) #[])
noncomputable def pre.o_21 (P : Params) : Obj := (Obj.mk (Value.type "list") none (Data.seq #[] (0 : Nat)) #[])
noncomputable def pre.o_22 (P : Params) : Obj := (Obj.mk (Value.type "dict") none (Data.dict #[(DictEntry.mk (PyData.keyHash P (Str.ofString "name")) (Value.str (Str.ofString "name") (210 : Nat)) (Value.str (Str.ofString "_collections") (209 : Nat))), (DictEntry.mk (PyData.keyHash P (Str.ofString "loader")) (Value.str (Str.ofString "loader") (211 : Nat)) (Value.ref (15 : Nat))), (DictEntry.mk (PyData.keyHash P (Str.ofString "origin")) (Value.str (Str.ofString "origin") (212 : Nat)) (Value.str (Str.ofString "built-in") (186 : Nat))), (DictEntry.mk (PyData.keyHash P (Str.ofString "loader_state")) (Value.str (Str.ofString "loader_state") (213 : Nat)) Value.none), (DictEntry.mk (PyData.keyHash P (Str.ofString "submodule_search_locations")) (Value.str (Str.ofString "submodule_search_locations") (214 : Nat)) Value.none), (DictEntry.mk (PyData.keyHash P (Str.ofString "_uninitialized_submodules")) (Value.str (Str.ofString "_uninitialized_submodules") (215 : Nat)) (Value.ref (20 : Nat))), (DictEntry.mk (PyData.keyHash P (Str.ofString "_set_fileattr")) (Value.str (Str.ofString "_set_fileattr") (216 : Nat)) (Value.bool false)), (DictEntry.mk (PyData.keyHash P (Str.ofString "_cached")) (Value.str (Str.ofString "_cached") (217 : Nat)) Value.none), (DictEntry.mk (PyData.keyHash P (Str.ofString "_initializing")) (Value.str (Str.ofString "_initializing") (245 : Nat)) (Value.bool false))] (9 : Nat)) #[])
noncomputable def pre.o_23 (P : Params) : Obj := (Obj.mk (Value.type "dict") none (Data.dict #[(DictEntry.mk (PyData.keyHash P (Str.ofString "__module__")) (Value.str (Str.ofString "__module__") (229 : Nat)) (Value.str (Str.ofString "_frozen_importlib") (219 : Nat))), (DictEntry.mk (PyData.keyHash P (Str.ofString "__firstlineno__")) (Value.str (Str.ofString "__firstlineno__") (230 : Nat)) (Value.int (562 : Int) (220 : Nat))), (DictEntry.mk (PyData.keyHash P (Str.ofString "__doc__")) (Value.str (Str.ofString "__doc__") (231 : Nat)) (Value.builtin "_frozen_importlib.ModuleSpec.__doc__:str#opaque")), (DictEntry.mk (PyData.keyHash P (Str.ofString "__init__")) (Value.str (Str.ofString "__init__") (232 : Nat)) (Value.builtin "_frozen_importlib.ModuleSpec.__init__#opaque")), (DictEntry.mk (PyData.keyHash P (Str.ofString "__repr__")) (Value.str (Str.ofString "__repr__") (233 : Nat)) (Value.builtin "_frozen_importlib.ModuleSpec.__repr__#opaque")), (DictEntry.mk (PyData.keyHash P (Str.ofString "__eq__")) (Value.str (Str.ofString "__eq__") (234 : Nat)) (Value.builtin "_frozen_importlib.ModuleSpec.__eq__#opaque")), (DictEntry.mk (PyData.keyHash P (Str.ofString "cached")) (Value.str (Str.ofString "cached") (235 : Nat)) (Value.builtin "_frozen_importlib.ModuleSpec.cached#opaque")), (DictEntry.mk (PyData.keyHash P (Str.ofString "parent")) (Value.str (Str.ofString "parent") (236 : Nat)) (Value.builtin "_frozen_importlib.ModuleSpec.parent#opaque")), (DictEntry.mk (PyData.keyHash P (Str.ofString "has_location")) (Value.str (Str.ofString "has_location") (237 : Nat)) (Value.builtin "_frozen_importlib.ModuleSpec.has_location#opaque")), (DictEntry.mk (PyData.keyHash P (Str.ofString "__static_attributes__")) (Value.str (Str.ofString "__static_attributes__") (238 : Nat)) (Value.ref (24 : Nat))), (DictEntry.mk (PyData.keyHash P (Str.ofString "__dict__")) (Value.str (Str.ofString "__dict__") (240 : Nat)) (Value.ref (25 : Nat))), (DictEntry.mk (PyData.keyHash P (Str.ofString "__weakref__")) (Value.str (Str.ofString "__weakref__") (242 : Nat)) (Value.ref (26 : Nat))), (DictEntry.mk (PyData.keyHash P (Str.ofString "__hash__")) (Value.str (Str.ofString "__hash__") (243 : Nat)) Value.none)] (13 : Nat)) #[])
noncomputable def pre.o_24 (P : Params) : Obj := (Obj.mk (Value.type "type") none (Data.cls (ClassData.mk (Str.ofString "ModuleSpec") [(Value.type "object")] [(Value.ref (23 : Nat)), (Value.type "object")] (22 : Nat) (Str.ofString "ModuleSpec") true [] [] false none false)) #[])
noncomputable def pre.o_25 (P : Params) : Obj := (Obj.mk (Value.type "tuple") none (Data.seq #[(Value.str (Str.ofString "_cached") (221 : Nat)), (Value.str (Str.ofString "_set_fileattr") (222 : Nat)), (Value.str (Str.ofString "_uninitialized_submodules") (223 : Nat)), (Value.str (Str.ofString "loader") (224 : Nat)), (Value.str (Str.ofString "loader_state") (225 : Nat)), (Value.str (Str.ofString "name") (226 : Nat)), (Value.str (Str.ofString "origin") (227 : Nat)), (Value.str (Str.ofString "submodule_search_locations") (228 : Nat))] (0 : Nat)) #[])
noncomputable def pre.o_26 (P : Params) : Obj := (Obj.mk (Value.type "getset_descriptor") none (Data.fields #[(Value.str (Str.ofString "__dict__") (239 : Nat)), (Value.ref (23 : Nat)), (Value.builtin "function.__dict__"), (Value.builtin "function.__dict__#set")]) #[])
noncomputable def pre.o_27 (P : Params) : Obj := (Obj.mk (Value.type "getset_descriptor") none (Data.fields #[(Value.str (Str.ofString "__weakref__") (241 : Nat)), (Value.ref (23 : Nat)), (Value.builtin "ExceptionGroup.__weakref__"), Value.none]) #[])
noncomputable def pre.o_28 (P : Params) : Obj := (Obj.mk (Value.ref (23 : Nat)) (Option.some (21 : Nat)) Data.plain #[])
noncomputable def pre.o_29 (P : Params) : Obj := (Obj.mk Value.none none (Data.seq #[(Value.int (12 : Int) (0 : Nat)), (Value.str (Str.ofString "\x06\xfa\x08__name__\x06\xf9\x0c_collections\x06\xfb\x07__doc__\t\x1f_collections.__doc__:str#opaque\x06\xfd\x0b__package__\x06\xfc\x00\x06\xfe\n__loader__\x04\x00\x00\x0f\x06\xff\x08__spec__\x04\x00\x00\x1b\x06\u0100\x0f_count_elements\t\x1c_collections._count_elements\x06\u0101\x05deque\x08\x11collections.deque\x06\u0102\x0bdefaultdict\x08\x17collections.defaultdict\x06\u0103\x0f_deque_iterator\x08\x1bcollections._deque_iterator\x06\u0104\x17_deque_reverse_iterator\x08#collections._deque_reverse_iterator\x06\u0105\x0c_tuplegetter\x08\x18collections._tuplegetter\x06\u0106\x0bOrderedDict\x08\x17collections.OrderedDict") (0 : Nat)), (Value.bool true), (Value.bool false), (Value.str (Str.ofString "_collections") (264 : Nat))] (0 : Nat)) #[])
noncomputable def pre.o_30 : Params → Obj := boot_o_7
noncomputable def pre.o_31 : Params → Obj := boot_o_8
noncomputable def pre.o_32 (P : Params) : Obj := (Obj.mk (Value.type "code") none (Data.fields #[(Value.str (Str.ofString "<module>") (274 : Nat)), (Value.str (Str.ofString "<module>") (275 : Nat)), (Value.str (Str.ofString "/claim/cut.py") (276 : Nat)), (Value.int (1 : Int) (0 : Nat)), (Value.int (0 : Int) (0 : Nat)), (Value.int (0 : Int) (0 : Nat)), (Value.int (0 : Int) (0 : Nat)), (Value.int (0 : Int) (0 : Nat)), (Value.ref (29 : Nat)), (Value.bool false), (Value.int (273 : Int) (0 : Nat)), (Value.ref (30 : Nat)), Value.none, Value.none, Value.none, Value.none, (Value.int (277 : Int) (0 : Nat)), (Value.int (1 : Int) (0 : Nat)), (Value.str (Str.ofString "/claim/cut.py") (278 : Nat))]) #[])
noncomputable def pre.o_33 (P : Params) : Obj := (Obj.mk (Value.type "frame") none Data.plain #[(Option.some (Value.ref (31 : Nat))), (Option.some (Value.ref (3 : Nat))), (Option.some (Value.ref (3 : Nat))), none, (Option.some (Value.str (Str.ofString "__main__") (164 : Nat))), none, (Option.some (Value.ref (0 : Nat)))])
noncomputable def pre.o_34 (P : Params) : Obj := (Obj.mk Value.none none (Data.dict #[(DictEntry.mk (PyData.keyHash P (Str.ofString "\x69mport.loaded._collections")) (Value.str (Str.ofString "\x69mport.loaded._collections") (185 : Nat)) (Value.bool true)), (DictEntry.mk (PyData.keyHash P (Str.ofString "class._frozen_importlib.BuiltinImporter")) (Value.str (Str.ofString "class._frozen_importlib.BuiltinImporter") (187 : Nat)) (Value.ref (15 : Nat))), (DictEntry.mk (PyData.keyHash P (Str.ofString "watched.\x69mport")) (Value.str (Str.ofString "watched.\x69mport") (208 : Nat)) (Value.ref (19 : Nat))), (DictEntry.mk (PyData.keyHash P (Str.ofString "class._frozen_importlib.ModuleSpec")) (Value.str (Str.ofString "class._frozen_importlib.ModuleSpec") (218 : Nat)) (Value.ref (23 : Nat))), (DictEntry.mk (PyData.keyHash P (Str.ofString "sys.modules.booked-epoch")) (Value.str (Str.ofString "sys.modules.booked-epoch") (247 : Nat)) (Value.int (3 : Int) (0 : Nat))), (DictEntry.mk (PyData.keyHash P (Str.ofString "sys.modules.landed._collections")) (Value.str (Str.ofString "sys.modules.landed._collections") (248 : Nat)) (Value.bool true)), (DictEntry.mk (PyData.keyHash P (Str.ofString "\x69mport.later-laid._collections")) (Value.str (Str.ofString "\x69mport.later-laid._collections") (263 : Nat)) (Value.bool true)), (DictEntry.mk (PyData.keyHash P (Str.ofString "watched.library")) (Value.str (Str.ofString "watched.library") (265 : Nat)) (Value.ref (28 : Nat))), (DictEntry.mk (PyData.keyHash P (Str.ofString "watched.library-objects")) (Value.str (Str.ofString "watched.library-objects") (0 : Nat)) (Value.str (Str.ofString "\x0d") (0 : Nat))), (DictEntry.mk (PyData.keyHash P (Str.ofString "watched.library-deep._collections")) (Value.str (Str.ofString "watched.library-deep._collections") (266 : Nat)) (Value.str (Str.ofString "\x04\x00\x00\x0c\x04\x00\x00\x0c\x04\x00\x00\x03\x04\x00\x00\x0c\x08\x04dict\x02") (0 : Nat))), (DictEntry.mk (PyData.keyHash P (Str.ofString "type.__subclasses__.Exception.0")) (Value.str (Str.ofString "type.__subclasses__.Exception.0") (297 : Nat)) (Value.int (42 : Int) (0 : Nat))), (DictEntry.mk (PyData.keyHash P (Str.ofString "type.__subclasses__.Exception.n")) (Value.str (Str.ofString "type.__subclasses__.Exception.n") (298 : Nat)) (Value.int (1 : Int) (0 : Nat)))] (12 : Nat)) #[])
noncomputable def pre.o_37 (P : Params) : Obj := (Obj.mk (Value.type "tuple") none (Data.seq #[(Value.type "Exception")] (0 : Nat)) #[])
noncomputable def pre.o_38 (P : Params) : Obj := (Obj.mk (Value.type "builtin_function_or_method") none (Data.fields #[(Value.builtin "type.__prepare__"), (Value.type "type")]) #[])
noncomputable def pre.o_39 (P : Params) : Obj := (Obj.mk (Value.type "dict") none (Data.dict #[(DictEntry.mk (PyData.keyHash P (Str.ofString "__module__")) (Value.str (Str.ofString "__module__") (288 : Nat)) (Value.str (Str.ofString "hpack.exceptions") (279 : Nat))), (DictEntry.mk (PyData.keyHash P (Str.ofString "__qualname__")) (Value.str (Str.ofString "__qualname__") (290 : Nat)) (Value.str (Str.ofString "HPACKError") (289 : Nat))), (DictEntry.mk (PyData.keyHash P (Str.ofString "__firstlineno__")) (Value.str (Str.ofString "__firstlineno__") (292 : Nat)) (Value.int (3 : Int) (291 : Nat))), (DictEntry.mk (PyData.keyHash P (Str.ofString "__static_attributes__")) (Value.str (Str.ofString "__static_attributes__") (293 : Nat)) (Value.ref (40 : Nat)))] (4 : Nat)) #[])
noncomputable def pre.o_40 : Params → Obj := boot_o_7
noncomputable def pre.o_41 : Params → Obj := boot_o_8
noncomputable def pre.o_42 (P : Params) : Obj := (Obj.mk (Value.type "code") none (Data.fields #[(Value.str (Str.ofString "HPACKError") (283 : Nat)), (Value.str (Str.ofString "HPACKError") (284 : Nat)), (Value.str (Str.ofString "/claim/cut.py") (285 : Nat)), (Value.int (3 : Int) (0 : Nat)), (Value.int (0 : Int) (0 : Nat)), (Value.int (0 : Int) (0 : Nat)), (Value.int (0 : Int) (0 : Nat)), (Value.int (0 : Int) (0 : Nat)), (Value.ref (36 : Nat)), (Value.bool false), (Value.int (273 : Int) (0 : Nat)), (Value.ref (37 : Nat)), Value.none, Value.none, Value.none, Value.none, (Value.int (286 : Int) (0 : Nat)), (Value.int (3 : Int) (0 : Nat)), (Value.str (Str.ofString "/claim/cut.py") (287 : Nat))]) #[])
noncomputable def pre.o_43 (P : Params) : Obj := (Obj.mk (Value.type "frame") none Data.plain #[(Option.some (Value.ref (38 : Nat))), (Option.some (Value.ref (3 : Nat))), (Option.some (Value.ref (35 : Nat))), none, (Option.some (Value.str (Str.ofString "hpack.exceptions") (279 : Nat))), none, (Option.some (Value.ref (0 : Nat)))])
noncomputable def pre.o_44 : Params → Obj := boot_o_7
noncomputable def pre.o_45 (P : Params) : Obj := (Obj.mk (Value.type "dict") none (Data.dict #[(DictEntry.mk (PyData.keyHash P (Str.ofString "__module__")) (Value.str (Str.ofString "__module__") (288 : Nat)) (Value.str (Str.ofString "hpack.exceptions") (279 : Nat))), (DictEntry.mk (PyData.keyHash P (Str.ofString "__firstlineno__")) (Value.str (Str.ofString "__firstlineno__") (292 : Nat)) (Value.int (3 : Int) (291 : Nat))), (DictEntry.mk (PyData.keyHash P (Str.ofString "__static_attributes__")) (Value.str (Str.ofString "__static_attributes__") (293 : Nat)) (Value.ref (40 : Nat))), (DictEntry.mk (PyData.keyHash P (Str.ofString "__weakref__")) (Value.str (Str.ofString "__weakref__") (295 : Nat)) (Value.ref (43 : Nat))), (DictEntry.mk (PyData.keyHash P (Str.ofString "__doc__")) (Value.str (Str.ofString "__doc__") (296 : Nat)) Value.none)] (3 : Nat)) #[])
noncomputable def pre.o_47 (P : Params) : Obj := (Obj.mk (Value.type "getset_descriptor") none (Data.fields #[(Value.str (Str.ofString "__weakref__") (294 : Nat)), (Value.ref (42 : Nat)), (Value.builtin "ExceptionGroup.__weakref__"), Value.none]) #[])
noncomputable def pre.o_48 (P : Params) : Obj := (Obj.mk (Value.type "super") none (Data.fields #[(Value.ref (42 : Nat)), (Value.ref (42 : Nat)), (Value.ref (42 : Nat))]) #[])
noncomputable def pre.o_49 (P : Params) : Obj := (Obj.mk (Value.type "builtin_function_or_method") none (Data.fields #[(Value.builtin "object.__init_subclass__"), (Value.ref (42 : Nat))]) #[])
noncomputable def pre.o_53 (P : Params) : Obj := (Obj.mk (Value.type "type") none (Data.cls (ClassData.mk (Str.ofString "HPACKError") [(Value.type "Exception")] [(Value.ref (42 : Nat)), (Value.type "Exception"), (Value.type "BaseException"), (Value.type "object")] (41 : Nat) (Str.ofString "HPACKError") true [] [(Value.ref (55 : Nat))] false none false)) #[(Option.some (Value.ref (33 : Nat))), none, (Option.some (Value.str (Str.ofString "HPACKError") (281 : Nat))), (Option.some (Value.str (Str.ofString "HPACKError") (289 : Nat))), (Option.some (Value.builtin "Exception.__new__")), (Option.some (Value.bool true))])
noncomputable def pre.o_54 (P : Params) : Obj := (Obj.mk (Value.type "tuple") none (Data.seq #[(Value.ref (42 : Nat))] (0 : Nat)) #[])
noncomputable def pre.o_55 (P : Params) : Obj := (Obj.mk (Value.type "builtin_function_or_method") none (Data.fields #[(Value.builtin "type.__prepare__"), (Value.type "type")]) #[])
noncomputable def pre.o_56 (P : Params) : Obj := (Obj.mk (Value.type "dict") none (Data.dict #[(DictEntry.mk (PyData.keyHash P (Str.ofString "__module__")) (Value.str (Str.ofString "__module__") (308 : Nat)) (Value.str (Str.ofString "hpack.exceptions") (279 : Nat))), (DictEntry.mk (PyData.keyHash P (Str.ofString "__qualname__")) (Value.str (Str.ofString "__qualname__") (310 : Nat)) (Value.str (Str.ofString "HPACKDecodingError") (309 : Nat))), (DictEntry.mk (PyData.keyHash P (Str.ofString "__firstlineno__")) (Value.str (Str.ofString "__firstlineno__") (312 : Nat)) (Value.int (5 : Int) (311 : Nat))), (DictEntry.mk (PyData.keyHash P (Str.ofString "__static_attributes__")) (Value.str (Str.ofString "__static_attributes__") (313 : Nat)) (Value.ref (53 : Nat)))] (4 : Nat)) #[])
noncomputable def pre.o_57 : Params → Obj := boot_o_7
noncomputable def pre.o_58 : Params → Obj := boot_o_8
noncomputable def pre.o_59 (P : Params) : Obj := (Obj.mk (Value.type "code") none (Data.fields #[(Value.str (Str.ofString "HPACKDecodingError") (303 : Nat)), (Value.str (Str.ofString "HPACKDecodingError") (304 : Nat)), (Value.str (Str.ofString "/claim/cut.py") (305 : Nat)), (Value.int (5 : Int) (0 : Nat)), (Value.int (0 : Int) (0 : Nat)), (Value.int (0 : Int) (0 : Nat)), (Value.int (0 : Int) (0 : Nat)), (Value.int (0 : Int) (0 : Nat)), (Value.ref (49 : Nat)), (Value.bool false), (Value.int (273 : Int) (0 : Nat)), (Value.ref (50 : Nat)), Value.none, Value.none, Value.none, Value.none, (Value.int (306 : Int) (0 : Nat)), (Value.int (5 : Int) (0 : Nat)), (Value.str (Str.ofString "/claim/cut.py") (307 : Nat))]) #[])
noncomputable def pre.o_60 (P : Params) : Obj := (Obj.mk (Value.type "frame") none Data.plain #[(Option.some (Value.ref (51 : Nat))), (Option.some (Value.ref (3 : Nat))), (Option.some (Value.ref (48 : Nat))), none, (Option.some (Value.str (Str.ofString "hpack.exceptions") (279 : Nat))), none, (Option.some (Value.ref (0 : Nat)))])
noncomputable def pre.o_61 : Params → Obj := boot_o_7
noncomputable def pre.o_62 (P : Params) : Obj := (Obj.mk (Value.type "dict") none (Data.dict #[(DictEntry.mk (PyData.keyHash P (Str.ofString "__module__")) (Value.str (Str.ofString "__module__") (308 : Nat)) (Value.str (Str.ofString "hpack.exceptions") (279 : Nat))), (DictEntry.mk (PyData.keyHash P (Str.ofString "__firstlineno__")) (Value.str (Str.ofString "__firstlineno__") (312 : Nat)) (Value.int (5 : Int) (311 : Nat))), (DictEntry.mk (PyData.keyHash P (Str.ofString "__static_attributes__")) (Value.str (Str.ofString "__static_attributes__") (313 : Nat)) (Value.ref (53 : Nat))), (DictEntry.mk (PyData.keyHash P (Str.ofString "__doc__")) (Value.str (Str.ofString "__doc__") (314 : Nat)) Value.none)] (2 : Nat)) #[])
noncomputable def pre.o_64 (P : Params) : Obj := (Obj.mk (Value.type "super") none (Data.fields #[(Value.ref (55 : Nat)), (Value.ref (55 : Nat)), (Value.ref (55 : Nat))]) #[])
noncomputable def pre.o_65 (P : Params) : Obj := (Obj.mk (Value.type "builtin_function_or_method") none (Data.fields #[(Value.builtin "object.__init_subclass__"), (Value.ref (55 : Nat))]) #[])
noncomputable def pre.o_69 (P : Params) : Obj := (Obj.mk (Value.type "type") none (Data.cls (ClassData.mk (Str.ofString "HPACKDecodingError") [(Value.ref (42 : Nat))] [(Value.ref (55 : Nat)), (Value.ref (42 : Nat)), (Value.type "Exception"), (Value.type "BaseException"), (Value.type "object")] (54 : Nat) (Str.ofString "HPACKDecodingError") true [] [(Value.ref (67 : Nat))] false none false)) #[(Option.some (Value.ref (46 : Nat))), none, (Option.some (Value.str (Str.ofString "HPACKDecodingError") (301 : Nat))), (Option.some (Value.str (Str.ofString "HPACKDecodingError") (309 : Nat))), (Option.some (Value.builtin "Exception.__new__")), (Option.some (Value.bool true))])
noncomputable def pre.o_70 (P : Params) : Obj := (Obj.mk (Value.type "tuple") none (Data.seq #[(Value.ref (55 : Nat))] (0 : Nat)) #[])
noncomputable def pre.o_71 (P : Params) : Obj := (Obj.mk (Value.type "builtin_function_or_method") none (Data.fields #[(Value.builtin "type.__prepare__"), (Value.type "type")]) #[])
noncomputable def pre.o_72 (P : Params) : Obj := (Obj.mk (Value.type "dict") none (Data.dict #[(DictEntry.mk (PyData.keyHash P (Str.ofString "__module__")) (Value.str (Str.ofString "__module__") (324 : Nat)) (Value.str (Str.ofString "hpack.exceptions") (279 : Nat))), (DictEntry.mk (PyData.keyHash P (Str.ofString "__qualname__")) (Value.str (Str.ofString "__qualname__") (326 : Nat)) (Value.str (Str.ofString "InvalidTableIndexError") (325 : Nat))), (DictEntry.mk (PyData.keyHash P (Str.ofString "__firstlineno__")) (Value.str (Str.ofString "__firstlineno__") (328 : Nat)) (Value.int (7 : Int) (327 : Nat))), (DictEntry.mk (PyData.keyHash P (Str.ofString "__static_attributes__")) (Value.str (Str.ofString "__static_attributes__") (329 : Nat)) (Value.ref (65 : Nat)))] (4 : Nat)) #[])
noncomputable def pre.o_73 : Params → Obj := boot_o_7
noncomputable def pre.o_74 : Params → Obj := boot_o_8
noncomputable def pre.o_75 (P : Params) : Obj := (Obj.mk (Value.type "code") none (Data.fields #[(Value.str (Str.ofString "InvalidTableIndexError") (319 : Nat)), (Value.str (Str.ofString "InvalidTableIndexError") (320 : Nat)), (Value.str (Str.ofString "/claim/cut.py") (321 : Nat)), (Value.int (7 : Int) (0 : Nat)), (Value.int (0 : Int) (0 : Nat)), (Value.int (0 : Int) (0 : Nat)), (Value.int (0 : Int) (0 : Nat)), (Value.int (0 : Int) (0 : Nat)), (Value.ref (61 : Nat)), (Value.bool false), (Value.int (273 : Int) (0 : Nat)), (Value.ref (62 : Nat)), Value.none, Value.none, Value.none, Value.none, (Value.int (322 : Int) (0 : Nat)), (Value.int (7 : Int) (0 : Nat)), (Value.str (Str.ofString "/claim/cut.py") (323 : Nat))]) #[])
noncomputable def pre.o_76 (P : Params) : Obj := (Obj.mk (Value.type "frame") none Data.plain #[(Option.some (Value.ref (63 : Nat))), (Option.some (Value.ref (3 : Nat))), (Option.some (Value.ref (60 : Nat))), none, (Option.some (Value.str (Str.ofString "hpack.exceptions") (279 : Nat))), none, (Option.some (Value.ref (0 : Nat)))])
noncomputable def pre.o_77 : Params → Obj := boot_o_7
noncomputable def pre.o_78 (P : Params) : Obj := (Obj.mk (Value.type "dict") none (Data.dict #[(DictEntry.mk (PyData.keyHash P (Str.ofString "__module__")) (Value.str (Str.ofString "__module__") (324 : Nat)) (Value.str (Str.ofString "hpack.exceptions") (279 : Nat))), (DictEntry.mk (PyData.keyHash P (Str.ofString "__firstlineno__")) (Value.str (Str.ofString "__firstlineno__") (328 : Nat)) (Value.int (7 : Int) (327 : Nat))), (DictEntry.mk (PyData.keyHash P (Str.ofString "__static_attributes__")) (Value.str (Str.ofString "__static_attributes__") (329 : Nat)) (Value.ref (65 : Nat))), (DictEntry.mk (PyData.keyHash P (Str.ofString "__doc__")) (Value.str (Str.ofString "__doc__") (330 : Nat)) Value.none)] (2 : Nat)) #[])
noncomputable def pre.o_80 (P : Params) : Obj := (Obj.mk (Value.type "super") none (Data.fields #[(Value.ref (67 : Nat)), (Value.ref (67 : Nat)), (Value.ref (67 : Nat))]) #[])
noncomputable def pre.o_81 (P : Params) : Obj := (Obj.mk (Value.type "builtin_function_or_method") none (Data.fields #[(Value.builtin "object.__init_subclass__"), (Value.ref (67 : Nat))]) #[])
noncomputable def pre.o_85 (P : Params) : Obj := (Obj.mk (Value.type "type") none (Data.cls (ClassData.mk (Str.ofString "InvalidTableIndexError") [(Value.ref (55 : Nat))] [(Value.ref (67 : Nat)), (Value.ref (55 : Nat)), (Value.ref (42 : Nat)), (Value.type "Exception"), (Value.type "BaseException"), (Value.type "object")] (66 : Nat) (Str.ofString "InvalidTableIndexError") true [] [(Value.ref (79 : Nat))] false none false)) #[(Option.some (Value.ref (58 : Nat))), none, (Option.some (Value.str (Str.ofString "InvalidTableIndexError") (317 : Nat))), (Option.some (Value.str (Str.ofString "InvalidTableIndexError") (325 : Nat))), (Option.some (Value.builtin "Exception.__new__")), (Option.some (Value.bool true))])
noncomputable def pre.o_86 (P : Params) : Obj := (Obj.mk (Value.type "tuple") none (Data.seq #[(Value.ref (67 : Nat))] (0 : Nat)) #[])
noncomputable def pre.o_87 (P : Params) : Obj := (Obj.mk (Value.type "builtin_function_or_method") none (Data.fields #[(Value.builtin "type.__prepare__"), (Value.type "type")]) #[])
noncomputable def pre.o_88 (P : Params) : Obj := (Obj.mk (Value.type "dict") none (Data.dict #[(DictEntry.mk (PyData.keyHash P (Str.ofString "__module__")) (Value.str (Str.ofString "__module__") (340 : Nat)) (Value.str (Str.ofString "hpack.exceptions") (279 : Nat))), (DictEntry.mk (PyData.keyHash P (Str.ofString "__qualname__")) (Value.str (Str.ofString "__qualname__") (342 : Nat)) (Value.str (Str.ofString "InvalidTableIndex") (341 : Nat))), (DictEntry.mk (PyData.keyHash P (Str.ofString "__firstlineno__")) (Value.str (Str.ofString "__firstlineno__") (344 : Nat)) (Value.int (9 : Int) (343 : Nat))), (DictEntry.mk (PyData.keyHash P (Str.ofString "__static_attributes__")) (Value.str (Str.ofString "__static_attributes__") (345 : Nat)) (Value.ref (77 : Nat)))] (4 : Nat)) #[])
noncomputable def pre.o_89 : Params → Obj := boot_o_7
noncomputable def pre.o_90 : Params → Obj := boot_o_8
noncomputable def pre.o_91 (P : Params) : Obj := (Obj.mk (Value.type "code") none (Data.fields #[(Value.str (Str.ofString "InvalidTableIndex") (335 : Nat)), (Value.str (Str.ofString "InvalidTableIndex") (336 : Nat)), (Value.str (Str.ofString "/claim/cut.py") (337 : Nat)), (Value.int (9 : Int) (0 : Nat)), (Value.int (0 : Int) (0 : Nat)), (Value.int (0 : Int) (0 : Nat)), (Value.int (0 : Int) (0 : Nat)), (Value.int (0 : Int) (0 : Nat)), (Value.ref (73 : Nat)), (Value.bool false), (Value.int (273 : Int) (0 : Nat)), (Value.ref (74 : Nat)), Value.none, Value.none, Value.none, Value.none, (Value.int (338 : Int) (0 : Nat)), (Value.int (9 : Int) (0 : Nat)), (Value.str (Str.ofString "/claim/cut.py") (339 : Nat))]) #[])
noncomputable def pre.o_92 (P : Params) : Obj := (Obj.mk (Value.type "frame") none Data.plain #[(Option.some (Value.ref (75 : Nat))), (Option.some (Value.ref (3 : Nat))), (Option.some (Value.ref (72 : Nat))), none, (Option.some (Value.str (Str.ofString "hpack.exceptions") (279 : Nat))), none, (Option.some (Value.ref (0 : Nat)))])
noncomputable def pre.o_93 : Params → Obj := boot_o_7
noncomputable def pre.o_94 (P : Params) : Obj := (Obj.mk (Value.type "dict") none (Data.dict #[(DictEntry.mk (PyData.keyHash P (Str.ofString "__module__")) (Value.str (Str.ofString "__module__") (340 : Nat)) (Value.str (Str.ofString "hpack.exceptions") (279 : Nat))), (DictEntry.mk (PyData.keyHash P (Str.ofString "__firstlineno__")) (Value.str (Str.ofString "__firstlineno__") (344 : Nat)) (Value.int (9 : Int) (343 : Nat))), (DictEntry.mk (PyData.keyHash P (Str.ofString "__static_attributes__")) (Value.str (Str.ofString "__static_attributes__") (345 : Nat)) (Value.ref (77 : Nat))), (DictEntry.mk (PyData.keyHash P (Str.ofString "__doc__")) (Value.str (Str.ofString "__doc__") (346 : Nat)) Value.none)] (2 : Nat)) #[])
noncomputable def pre.o_95 (P : Params) : Obj := (Obj.mk (Value.type "type") none (Data.cls (ClassData.mk (Str.ofString "InvalidTableIndex") [(Value.ref (67 : Nat))] [(Value.ref (79 : Nat)), (Value.ref (67 : Nat)), (Value.ref (55 : Nat)), (Value.ref (42 : Nat)), (Value.type "Exception"), (Value.type "BaseException"), (Value.type "object")] (78 : Nat) (Str.ofString "InvalidTableIndex") true [] [] false none false)) #[(Option.some (Value.ref (70 : Nat))), none, (Option.some (Value.str (Str.ofString "InvalidTableIndex") (333 : Nat))), (Option.some (Value.str (Str.ofString "InvalidTableIndex") (341 : Nat))), (Option.some (Value.builtin "Exception.__new__")), (Option.some (Value.bool true))])
noncomputable def pre.o_96 (P : Params) : Obj := (Obj.mk (Value.type "super") none (Data.fields #[(Value.ref (79 : Nat)), (Value.ref (79 : Nat)), (Value.ref (79 : Nat))]) #[])
noncomputable def pre.o_97 (P : Params) : Obj := (Obj.mk (Value.type "builtin_function_or_method") none (Data.fields #[(Value.builtin "object.__init_subclass__"), (Value.ref (79 : Nat))]) #[])
noncomputable def pre.o_98 : Params → Obj := boot_o_7
noncomputable def pre.o_99 : Params → Obj := boot_o_8
noncomputable def pre.o_100 (P : Params) : Obj := (Obj.mk (Value.type "tuple") none (Data.seq #[(Value.str (Str.ofString "name") (354 : Nat)), (Value.str (Str.ofString "value") (355 : Nat))] (0 : Nat)) #[])
noncomputable def pre.o_101 : Params → Obj := boot_o_7
noncomputable def pre.o_102 (P : Params) : Obj := (Obj.mk Value.none none (Data.func (FuncData.mk (Str.ofString "table_entry_size") (Str.ofString "table_entry_size") (fnParams (st 6)) (FuncBody.stmts (fnBody (st 6))) (fnScope (st 6)) (0 : Nat) [] Value.none Value.none Value.none Value.none none Value.none Value.none (0 : Nat))) #[])
noncomputable def pre.o_103 (P : Params) : Obj := (Obj.mk (Value.type "code") none (Data.fields #[(Value.str (Str.ofString "table_entry_size") (351 : Nat)), (Value.str (Str.ofString "table_entry_size") (352 : Nat)), (Value.str (Str.ofString "/claim/cut.py") (353 : Nat)), (Value.int (12 : Int) (0 : Nat)), (Value.int (2 : Int) (0 : Nat)), (Value.int (0 : Int) (0 : Nat)), (Value.int (0 : Int) (0 : Nat)), (Value.int (3 : Int) (0 : Nat)), (Value.ref (82 : Nat)), (Value.bool true), (Value.int (273 : Int) (0 : Nat)), (Value.ref (83 : Nat)), Value.none, (Value.ref (84 : Nat)), (Value.ref (85 : Nat)), (Value.ref (86 : Nat)), (Value.int (356 : Int) (0 : Nat)), (Value.int (12 : Int) (0 : Nat)), (Value.str (Str.ofString "/claim/cut.py") (357 : Nat))]) #[])
noncomputable def pre.o_104 (P : Params) : Obj := (Obj.mk (Value.type "function") none (Data.func (FuncData.mk (Str.ofString "table_entry_size") (Str.ofString "table_entry_size") (fnParams (st 6)) (FuncBody.stmts (fnBody (st 6))) (fnScope (st 6)) (3 : Nat) [] Value.none Value.none Value.none (Value.str (Str.ofString "hpack.table") (349 : Nat)) none (Value.ref (87 : Nat)) Value.none (0 : Nat))) #[])
noncomputable def pre.o_108 : Params → Obj := boot_o_7
noncomputable def pre.o_109 (P : Params) : Obj := (Obj.mk (Value.type "builtin_function_or_method") none (Data.fields #[(Value.builtin "type.__prepare__"), (Value.type "type")]) #[])
noncomputable def pre.o_110 (P : Params) : Obj := (Obj.mk (Value.type "dict") none (Data.dict #[(DictEntry.mk (PyData.keyHash P (Str.ofString "__module__")) (Value.str (Str.ofString "__module__") (366 : Nat)) (Value.str (Str.ofString "hpack.table") (349 : Nat))), (DictEntry.mk (PyData.keyHash P (Str.ofString "__qualname__")) (Value.str (Str.ofString "__qualname__") (368 : Nat)) (Value.str (Str.ofString "HeaderTable") (367 : Nat))), (DictEntry.mk (PyData.keyHash P (Str.ofString "__firstlineno__")) (Value.str (Str.ofString "__firstlineno__") (370 : Nat)) (Value.int (14 : Int) (369 : Nat))), (DictEntry.mk (PyData.keyHash P (Str.ofString "DEFAULT_SIZE")) (Value.str (Str.ofString "DEFAULT_SIZE") (372 : Nat)) (Value.int (4096 : Int) (371 : Nat))), (DictEntry.mk (PyData.keyHash P (Str.ofString "STATIC_TABLE")) (Value.str (Str.ofString "STATIC_TABLE") (495 : Nat)) (Value.ref (157 : Nat))), (DictEntry.mk (PyData.keyHash P (Str.ofString "STATIC_TABLE_LENGTH")) (Value.str (Str.ofString "STATIC_TABLE_LENGTH") (498 : Nat)) (Value.int (61 : Int) (497 : Nat))), (DictEntry.mk (PyData.keyHash P (Str.ofString "__init__")) (Value.str (Str.ofString "__init__") (505 : Nat)) (Value.ref (164 : Nat))), (DictEntry.mk (PyData.keyHash P (Str.ofString "get_by_index")) (Value.str (Str.ofString "get_by_index") (514 : Nat)) (Value.ref (171 : Nat))), (DictEntry.mk (PyData.keyHash P (Str.ofString "__repr__")) (Value.str (Str.ofString "__repr__") (521 : Nat)) (Value.ref (178 : Nat))), (DictEntry.mk (PyData.keyHash P (Str.ofString "add")) (Value.str (Str.ofString "add") (531 : Nat)) (Value.ref (185 : Nat))), (DictEntry.mk (PyData.keyHash P (Str.ofString "search")) (Value.str (Str.ofString "search") (547 : Nat)) (Value.ref (192 : Nat))), (DictEntry.mk (PyData.keyHash P (Str.ofString "maxsize")) (Value.str (Str.ofString "maxsize") (555 : Nat)) (Value.ref (209 : Nat))), (DictEntry.mk (PyData.keyHash P (Str.ofString "_shrink")) (Value.str (Str.ofString "_shrink") (576 : Nat)) (Value.ref (216 : Nat))), (DictEntry.mk (PyData.keyHash P (Str.ofString "__static_attributes__")) (Value.str (Str.ofString "__static_attributes__") (581 : Nat)) (Value.ref (217 : Nat)))] (14 : Nat)) #[])
noncomputable def pre.o_111 : Params → Obj := boot_o_7
noncomputable def pre.o_112 (P : Params) : Obj := (Obj.mk Value.none none (Data.fields #[(Value.int (19 : Int) (0 : Nat)), (Value.int (4 : Int) (0 : Nat)), (Value.ref (163 : Nat)), (Value.int (25 : Int) (0 : Nat)), (Value.int (4 : Int) (0 : Nat)), (Value.ref (170 : Nat)), (Value.int (36 : Int) (0 : Nat)), (Value.int (4 : Int) (0 : Nat)), (Value.ref (177 : Nat)), (Value.int (39 : Int) (0 : Nat)), (Value.int (4 : Int) (0 : Nat)), (Value.ref (184 : Nat)), (Value.int (49 : Int) (0 : Nat)), (Value.int (4 : Int) (0 : Nat)), (Value.ref (191 : Nat)), (Value.int (68 : Int) (0 : Nat)), (Value.int (4 : Int) (0 : Nat)), (Value.ref (198 : Nat)), (Value.int (72 : Int) (0 : Nat)), (Value.int (4 : Int) (0 : Nat)), (Value.ref (207 : Nat)), (Value.int (83 : Int) (0 : Nat)), (Value.int (4 : Int) (0 : Nat)), (Value.ref (215 : Nat))]) #[])
noncomputable def pre.o_113 (P : Params) : Obj := (Obj.mk (Value.type "code") none (Data.fields #[(Value.str (Str.ofString "HeaderTable") (361 : Nat)), (Value.str (Str.ofString "HeaderTable") (362 : Nat)), (Value.str (Str.ofString "/claim/cut.py") (363 : Nat)), (Value.int (14 : Int) (0 : Nat)), (Value.int (0 : Int) (0 : Nat)), (Value.int (0 : Int) (0 : Nat)), (Value.int (0 : Int) (0 : Nat)), (Value.int (0 : Int) (0 : Nat)), (Value.ref (92 : Nat)), (Value.bool false), (Value.int (273 : Int) (0 : Nat)), (Value.ref (93 : Nat)), Value.none, Value.none, Value.none, Value.none, (Value.int (364 : Int) (0 : Nat)), (Value.int (14 : Int) (0 : Nat)), (Value.str (Str.ofString "/claim/cut.py") (365 : Nat))]) #[])
noncomputable def pre.o_114 (P : Params) : Obj := (Obj.mk (Value.type "frame") none Data.plain #[(Option.some (Value.ref (94 : Nat))), (Option.some (Value.ref (3 : Nat))), (Option.some (Value.ref (91 : Nat))), none, (Option.some (Value.str (Str.ofString "hpack.table") (349 : Nat))), none, (Option.some (Value.ref (0 : Nat)))])
noncomputable def pre.o_115 (P : Params) : Obj := (Obj.mk (Value.type "tuple") none (Data.seq #[(Value.bytes #[(58 : UInt8), (97 : UInt8), (117 : UInt8), (116 : UInt8), (104 : UInt8), (111 : UInt8), (114 : UInt8), (105 : UInt8), (116 : UInt8), (121 : UInt8)] (373 : Nat)), (Value.bytes #[] (374 : Nat))] (0 : Nat)) #[])
noncomputable def pre.o_116 (P : Params) : Obj := (Obj.mk (Value.type "tuple") none (Data.seq #[(Value.bytes #[(58 : UInt8), (109 : UInt8), (101 : UInt8), (116 : UInt8), (104 : UInt8), (111 : UInt8), (100 : UInt8)] (375 : Nat)), (Value.bytes #[(71 : UInt8), (69 : UInt8), (84 : UInt8)] (376 : Nat))] (0 : Nat)) #[])
noncomputable def pre.o_117 (P : Params) : Obj := (Obj.mk (Value.type "tuple") none (Data.seq #[(Value.bytes #[(58 : UInt8), (109 : UInt8), (101 : UInt8), (116 : UInt8), (104 : UInt8), (111 : UInt8), (100 : UInt8)] (377 : Nat)), (Value.bytes #[(80 : UInt8), (79 : UInt8), (83 : UInt8), (84 : UInt8)] (378 : Nat))] (0 : Nat)) #[])
noncomputable def pre.o_118 (P : Params) : Obj := (Obj.mk (Value.type "tuple") none (Data.seq #[(Value.bytes #[(58 : UInt8), (112 : UInt8), (97 : UInt8), (116 : UInt8), (104 : UInt8)] (379 : Nat)), (Value.bytes #[(47 : UInt8)] (380 : Nat))] (0 : Nat)) #[])
noncomputable def pre.o_119 (P : Params) : Obj := (Obj.mk (Value.type "tuple") none (Data.seq #[(Value.bytes #[(58 : UInt8), (112 : UInt8), (97 : UInt8), (116 : UInt8), (104 : UInt8)] (381 : Nat)), (Value.bytes #[(47 : UInt8), (105 : UInt8), (110 : UInt8), (100 : UInt8), (101 : UInt8), (120 : UInt8), (46 : UInt8), (104 : UInt8), (116 : UInt8), (109 : UInt8), (108 : UInt8)] (382 : Nat))] (0 : Nat)) #[])
noncomputable def pre.o_120 (P : Params) : Obj := (Obj.mk (Value.type "tuple") none (Data.seq #[(Value.bytes #[(58 : UInt8), (115 : UInt8), (99 : UInt8), (104 : UInt8), (101 : UInt8), (109 : UInt8), (101 : UInt8)] (383 : Nat)), (Value.bytes #[(104 : UInt8), (116 : UInt8), (116 : UInt8), (112 : UInt8)] (384 : Nat))] (0 : Nat)) #[])
noncomputable def pre.o_121 (P : Params) : Obj := (Obj.mk (Value.type "tuple") none (Data.seq #[(Value.bytes #[(58 : UInt8), (115 : UInt8), (99 : UInt8), (104 : UInt8), (101 : UInt8), (109 : UInt8), (101 : UInt8)] (385 : Nat)), (Value.bytes #[(104 : UInt8), (116 : UInt8), (116 : UInt8), (112 : UInt8), (115 : UInt8)] (386 : Nat))] (0 : Nat)) #[])
noncomputable def pre.o_122 (P : Params) : Obj := (Obj.mk (Value.type "tuple") none (Data.seq #[(Value.bytes #[(58 : UInt8), (115 : UInt8), (116 : UInt8), (97 : UInt8), (116 : UInt8), (117 : UInt8), (115 : UInt8)] (387 : Nat)), (Value.bytes #[(50 : UInt8), (48 : UInt8), (48 : UInt8)] (388 : Nat))] (0 : Nat)) #[])
noncomputable def pre.o_123 (P : Params) : Obj := (Obj.mk (Value.type "tuple") none (Data.seq #[(Value.bytes #[(58 : UInt8), (115 : UInt8), (116 : UInt8), (97 : UInt8), (116 : UInt8), (117 : UInt8), (115 : UInt8)] (389 : Nat)), (Value.bytes #[(50 : UInt8), (48 : UInt8), (52 : UInt8)] (390 : Nat))] (0 : Nat)) #[])
noncomputable def pre.o_124 (P : Params) : Obj := (Obj.mk (Value.type "tuple") none (Data.seq #[(Value.bytes #[(58 : UInt8), (115 : UInt8), (116 : UInt8), (97 : UInt8), (116 : UInt8), (117 : UInt8), (115 : UInt8)] (391 : Nat)), (Value.bytes #[(50 : UInt8), (48 : UInt8), (54 : UInt8)] (392 : Nat))] (0 : Nat)) #[])
noncomputable def pre.o_125 (P : Params) : Obj := (Obj.mk (Value.type "tuple") none (Data.seq #[(Value.bytes #[(58 : UInt8), (115 : UInt8), (116 : UInt8), (97 : UInt8), (116 : UInt8), (117 : UInt8), (115 : UInt8)] (393 : Nat)), (Value.bytes #[(51 : UInt8), (48 : UInt8), (52 : UInt8)] (394 : Nat))] (0 : Nat)) #[])
noncomputable def pre.o_126 (P : Params) : Obj := (Obj.mk (Value.type "tuple") none (Data.seq #[(Value.bytes #[(58 : UInt8), (115 : UInt8), (116 : UInt8), (97 : UInt8), (116 : UInt8), (117 : UInt8), (115 : UInt8)] (395 : Nat)), (Value.bytes #[(52 : UInt8), (48 : UInt8), (48 : UInt8)] (396 : Nat))] (0 : Nat)) #[])
noncomputable def pre.o_127 (P : Params) : Obj := (Obj.mk (Value.type "tuple") none (Data.seq #[(Value.bytes #[(58 : UInt8), (115 : UInt8), (116 : UInt8), (97 : UInt8), (116 : UInt8), (117 : UInt8), (115 : UInt8)] (397 : Nat)), (Value.bytes #[(52 : UInt8), (48 : UInt8), (52 : UInt8)] (398 : Nat))] (0 : Nat)) #[])
noncomputable def pre.o_128 (P : Params) : Obj := (Obj.mk (Value.type "tuple") none (Data.seq #[(Value.bytes #[(58 : UInt8), (115 : UInt8), (116 : UInt8), (97 : UInt8), (116 : UInt8), (117 : UInt8), (115 : UInt8)] (399 : Nat)), (Value.bytes #[(53 : UInt8), (48 : UInt8), (48 : UInt8)] (400 : Nat))] (0 : Nat)) #[])
noncomputable def pre.o_129 (P : Params) : Obj := (Obj.mk (Value.type "tuple") none (Data.seq #[(Value.bytes #[(97 : UInt8), (99 : UInt8), (99 : UInt8), (101 : UInt8), (112 : UInt8), (116 : UInt8), (45 : UInt8), (99 : UInt8), (104 : UInt8), (97 : UInt8), (114 : UInt8), (115 : UInt8), (101 : UInt8), (116 : UInt8)] (401 : Nat)), (Value.bytes #[] (402 : Nat))] (0 : Nat)) #[])
noncomputable def pre.o_130 (P : Params) : Obj := (Obj.mk (Value.type "tuple") none (Data.seq #[(Value.bytes #[(97 : UInt8), (99 : UInt8), (99 : UInt8), (101 : UInt8), (112 : UInt8), (116 : UInt8), (45 : UInt8), (101 : UInt8), (110 : UInt8), (99 : UInt8), (111 : UInt8), (100 : UInt8), (105 : UInt8), (110 : UInt8), (103 : UInt8)] (403 : Nat)), (Value.bytes #[(103 : UInt8), (122 : UInt8), (105 : UInt8), (112 : UInt8), (44 : UInt8), (32 : UInt8), (100 : UInt8), (101 : UInt8), (102 : UInt8), (108 : UInt8), (97 : UInt8), (116 : UInt8), (101 : UInt8)] (404 : Nat))] (0 : Nat)) #[])
noncomputable def pre.o_131 (P : Params) : Obj := (Obj.mk (Value.type "tuple") none (Data.seq #[(Value.bytes #[(97 : UInt8), (99 : UInt8), (99 : UInt8), (101 : UInt8), (112 : UInt8), (116 : UInt8), (45 : UInt8), (108 : UInt8), (97 : UInt8), (110 : UInt8), (103 : UInt8), (117 : UInt8), (97 : UInt8), (103 : UInt8), (101 : UInt8)] (405 : Nat)), (Value.bytes #[] (406 : Nat))] (0 : Nat)) #[])
noncomputable def pre.o_132 (P : Params) : Obj := (Obj.mk (Value.type "tuple") none (Data.seq #[(Value.bytes #[(97 : UInt8), (99 : UInt8), (99 : UInt8), (101 : UInt8), (112 : UInt8), (116 : UInt8), (45 : UInt8), (114 : UInt8), (97 : UInt8), (110 : UInt8), (103 : UInt8), (101 : UInt8), (115 : UInt8)] (407 : Nat)), (Value.bytes #[] (408 : Nat))] (0 : Nat)) #[])
noncomputable def pre.o_133 (P : Params) : Obj := (Obj.mk (Value.type "tuple") none (Data.seq #[(Value.bytes #[(97 : UInt8), (99 : UInt8), (99 : UInt8), (101 : UInt8), (112 : UInt8), (116 : UInt8)] (409 : Nat)), (Value.bytes #[] (410 : Nat))] (0 : Nat)) #[])
noncomputable def pre.o_134 (P : Params) : Obj := (Obj.mk (Value.type "tuple") none (Data.seq #[(Value.bytes #[(97 : UInt8), (99 : UInt8), (99 : UInt8), (101 : UInt8), (115 : UInt8), (115 : UInt8), (45 : UInt8), (99 : UInt8), (111 : UInt8), (110 : UInt8), (116 : UInt8), (114 : UInt8), (111 : UInt8), (108 : UInt8), (45 : UInt8), (97 : UInt8), (108 : UInt8), (108 : UInt8), (111 : UInt8), (119 : UInt8), (45 : UInt8), (111 : UInt8), (114 : UInt8), (105 : UInt8), (103 : UInt8), (105 : UInt8), (110 : UInt8)] (411 : Nat)), (Value.bytes #[] (412 : Nat))] (0 : Nat)) #[])
noncomputable def pre.o_135 (P : Params) : Obj := (Obj.mk (Value.type "tuple") none (Data.seq #[(Value.bytes #[(97 : UInt8), (103 : UInt8), (101 : UInt8)] (413 : Nat)), (Value.bytes #[] (414 : Nat))] (0 : Nat)) #[])
noncomputable def pre.o_136 (P : Params) : Obj := (Obj.mk (Value.type "tuple") none (Data.seq #[(Value.bytes #[(97 : UInt8), (108 : UInt8), (108 : UInt8), (111 : UInt8), (119 : UInt8)] (415 : Nat)), (Value.bytes #[] (416 : Nat))] (0 : Nat)) #[])
noncomputable def pre.o_137 (P : Params) : Obj := (Obj.mk (Value.type "tuple") none (Data.seq #[(Value.bytes #[(97 : UInt8), (117 : UInt8), (116 : UInt8), (104 : UInt8), (111 : UInt8), (114 : UInt8), (105 : UInt8), (122 : UInt8), (97 : UInt8), (116 : UInt8), (105 : UInt8), (111 : UInt8), (110 : UInt8)] (417 : Nat)), (Value.bytes #[] (418 : Nat))] (0 : Nat)) #[])
noncomputable def pre.o_138 (P : Params) : Obj := (Obj.mk (Value.type "tuple") none (Data.seq #[(Value.bytes #[(99 : UInt8), (97 : UInt8), (99 : UInt8), (104 : UInt8), (101 : UInt8), (45 : UInt8), (99 : UInt8), (111 : UInt8), (110 : UInt8), (116 : UInt8), (114 : UInt8), (111 : UInt8), (108 : UInt8)] (419 : Nat)), (Value.bytes #[] (420 : Nat))] (0 : Nat)) #[])
noncomputable def pre.o_139 (P : Params) : Obj := (Obj.mk (Value.type "tuple") none (Data.seq #[(Value.bytes #[(99 : UInt8), (111 : UInt8), (110 : UInt8), (116 : UInt8), (101 : UInt8), (110 : UInt8), (116 : UInt8), (45 : UInt8), (100 : UInt8), (105 : UInt8), (115 : UInt8), (112 : UInt8), (111 : UInt8), (115 : UInt8), (105 : UInt8), (116 : UInt8), (105 : UInt8), (111 : UInt8), (110 : UInt8)] (421 : Nat)), (Value.bytes #[] (422 : Nat))] (0 : Nat)) #[])
noncomputable def pre.o_140 (P : Params) : Obj := (Obj.mk (Value.type "tuple") none (Data.seq #[(Value.bytes #[(99 : UInt8), (111 : UInt8), (110 : UInt8), (116 : UInt8), (101 : UInt8), (110 : UInt8), (116 : UInt8), (45 : UInt8), (101 : UInt8), (110 : UInt8), (99 : UInt8), (111 : UInt8), (100 : UInt8), (105 : UInt8), (110 : UInt8), (103 : UInt8)] (423 : Nat)), (Value.bytes #[] (424 : Nat))] (0 : Nat)) #[])
noncomputable def pre.o_141 (P : Params) : Obj := (Obj.mk (Value.type "tuple") none (Data.seq #[(Value.bytes #[(99 : UInt8), (111 : UInt8), (110 : UInt8), (116 : UInt8), (101 : UInt8), (110 : UInt8), (116 : UInt8), (45 : UInt8), (108 : UInt8), (97 : UInt8), (110 : UInt8), (103 : UInt8), (117 : UInt8), (97 : UInt8), (103 : UInt8), (101 : UInt8)] (425 : Nat)), (Value.bytes #[] (426 : Nat))] (0 : Nat)) #[])
noncomputable def pre.o_142 (P : Params) : Obj := (Obj.mk (Value.type "tuple") none (Data.seq #[(Value.bytes #[(99 : UInt8), (111 : UInt8), (110 : UInt8), (116 : UInt8), (101 : UInt8), (110 : UInt8), (116 : UInt8), (45 : UInt8), (108 : UInt8), (101 : UInt8), (110 : UInt8), (103 : UInt8), (116 : UInt8), (104 : UInt8)] (427 : Nat)), (Value.bytes #[] (428 : Nat))] (0 : Nat)) #[])
noncomputable def pre.o_143 (P : Params) : Obj := (Obj.mk (Value.type "tuple") none (Data.seq #[(Value.bytes #[(99 : UInt8), (111 : UInt8), (110 : UInt8), (116 : UInt8), (101 : UInt8), (110 : UInt8), (116 : UInt8), (45 : UInt8), (108 : UInt8), (111 : UInt8), (99 : UInt8), (97 : UInt8), (116 : UInt8), (105 : UInt8), (111 : UInt8), (110 : UInt8)] (429 : Nat)), (Value.bytes #[] (430 : Nat))] (0 : Nat)) #[])
noncomputable def pre.o_144 (P : Params) : Obj := (Obj.mk (Value.type "tuple") none (Data.seq #[(Value.bytes #[(99 : UInt8), (111 : UInt8), (110 : UInt8), (116 : UInt8), (101 : UInt8), (110 : UInt8), (116 : UInt8), (45 : UInt8), (114 : UInt8), (97 : UInt8), (110 : UInt8), (103 : UInt8), (101 : UInt8)] (431 : Nat)), (Value.bytes #[] (432 : Nat))] (0 : Nat)) #[])
noncomputable def pre.o_145 (P : Params) : Obj := (Obj.mk (Value.type "tuple") none (Data.seq #[(Value.bytes #[(99 : UInt8), (111 : UInt8), (110 : UInt8), (116 : UInt8), (101 : UInt8), (110 : UInt8), (116 : UInt8), (45 : UInt8), (116 : UInt8), (121 : UInt8), (112 : UInt8), (101 : UInt8)] (433 : Nat)), (Value.bytes #[] (434 : Nat))] (0 : Nat)) #[])
noncomputable def pre.o_146 (P : Params) : Obj := (Obj.mk (Value.type "tuple") none (Data.seq #[(Value.bytes #[(99 : UInt8), (111 : UInt8), (111 : UInt8), (107 : UInt8), (105 : UInt8), (101 : UInt8)] (435 : Nat)), (Value.bytes #[] (436 : Nat))] (0 : Nat)) #[])
noncomputable def pre.o_147 (P : Params) : Obj := (Obj.mk (Value.type "tuple") none (Data.seq #[(Value.bytes #[(100 : UInt8), (97 : UInt8), (116 : UInt8), (101 : UInt8)] (437 : Nat)), (Value.bytes #[] (438 : Nat))] (0 : Nat)) #[])
noncomputable def pre.o_148 (P : Params) : Obj := (Obj.mk (Value.type "tuple") none (Data.seq #[(Value.bytes #[(101 : UInt8), (116 : UInt8), (97 : UInt8), (103 : UInt8)] (439 : Nat)), (Value.bytes #[] (440 : Nat))] (0 : Nat)) #[])
noncomputable def pre.o_149 (P : Params) : Obj := (Obj.mk (Value.type "tuple") none (Data.seq #[(Value.bytes #[(101 : UInt8), (120 : UInt8), (112 : UInt8), (101 : UInt8), (99 : UInt8), (116 : UInt8)] (441 : Nat)), (Value.bytes #[] (442 : Nat))] (0 : Nat)) #[])
noncomputable def pre.o_150 (P : Params) : Obj := (Obj.mk (Value.type "tuple") none (Data.seq #[(Value.bytes #[(101 : UInt8), (120 : UInt8), (112 : UInt8), (105 : UInt8), (114 : UInt8), (101 : UInt8), (115 : UInt8)] (443 : Nat)), (Value.bytes #[] (444 : Nat))] (0 : Nat)) #[])
noncomputable def pre.o_151 (P : Params) : Obj := (Obj.mk (Value.type "tuple") none (Data.seq #[(Value.bytes #[(102 : UInt8), (114 : UInt8), (111 : UInt8), (109 : UInt8)] (445 : Nat)), (Value.bytes #[] (446 : Nat))] (0 : Nat)) #[])
noncomputable def pre.o_152 (P : Params) : Obj := (Obj.mk (Value.type "tuple") none (Data.seq #[(Value.bytes #[(104 : UInt8), (111 : UInt8), (115 : UInt8), (116 : UInt8)] (447 : Nat)), (Value.bytes #[] (448 : Nat))] (0 : Nat)) #[])
noncomputable def pre.o_153 (P : Params) : Obj := (Obj.mk (Value.type "tuple") none (Data.seq #[(Value.bytes #[(105 : UInt8), (102 : UInt8), (45 : UInt8), (109 : UInt8), (97 : UInt8), (116 : UInt8), (99 : UInt8), (104 : UInt8)] (449 : Nat)), (Value.bytes #[] (450 : Nat))] (0 : Nat)) #[])
noncomputable def pre.o_154 (P : Params) : Obj := (Obj.mk (Value.type "tuple") none (Data.seq #[(Value.bytes #[(105 : UInt8), (102 : UInt8), (45 : UInt8), (109 : UInt8), (111 : UInt8), (100 : UInt8), (105 : UInt8), (102 : UInt8), (105 : UInt8), (101 : UInt8), (100 : UInt8), (45 : UInt8), (115 : UInt8), (105 : UInt8), (110 : UInt8), (99 : UInt8), (101 : UInt8)] (451 : Nat)), (Value.bytes #[] (452 : Nat))] (0 : Nat)) #[])
noncomputable def pre.o_155 (P : Params) : Obj := (Obj.mk (Value.type "tuple") none (Data.seq #[(Value.bytes #[(105 : UInt8), (102 : UInt8), (45 : UInt8), (110 : UInt8), (111 : UInt8), (110 : UInt8), (101 : UInt8), (45 : UInt8), (109 : UInt8), (97 : UInt8), (116 : UInt8), (99 : UInt8), (104 : UInt8)] (453 : Nat)), (Value.bytes #[] (454 : Nat))] (0 : Nat)) #[])
noncomputable def pre.o_156 (P : Params) : Obj := (Obj.mk (Value.type "tuple") none (Data.seq #[(Value.bytes #[(105 : UInt8), (102 : UInt8), (45 : UInt8), (114 : UInt8), (97 : UInt8), (110 : UInt8), (103 : UInt8), (101 : UInt8)] (455 : Nat)), (Value.bytes #[] (456 : Nat))] (0 : Nat)) #[])
noncomputable def pre.o_157 (P : Params) : Obj := (Obj.mk (Value.type "tuple") none (Data.seq #[(Value.bytes #[(105 : UInt8), (102 : UInt8), (45 : UInt8), (117 : UInt8), (110 : UInt8), (109 : UInt8), (111 : UInt8), (100 : UInt8), (105 : UInt8), (102 : UInt8), (105 : UInt8), (101 : UInt8), (100 : UInt8), (45 : UInt8), (115 : UInt8), (105 : UInt8), (110 : UInt8), (99 : UInt8), (101 : UInt8)] (457 : Nat)), (Value.bytes #[] (458 : Nat))] (0 : Nat)) #[])
noncomputable def pre.o_158 (P : Params) : Obj := (Obj.mk (Value.type "tuple") none (Data.seq #[(Value.bytes #[(108 : UInt8), (97 : UInt8), (115 : UInt8), (116 : UInt8), (45 : UInt8), (109 : UInt8), (111 : UInt8), (100 : UInt8), (105 : UInt8), (102 : UInt8), (105 : UInt8), (101 : UInt8), (100 : UInt8)] (459 : Nat)), (Value.bytes #[] (460 : Nat))] (0 : Nat)) #[])
noncomputable def pre.o_159 (P : Params) : Obj := (Obj.mk (Value.type "tuple") none (Data.seq #[(Value.bytes #[(108 : UInt8), (105 : UInt8), (110 : UInt8), (107 : UInt8)] (461 : Nat)), (Value.bytes #[] (462 : Nat))] (0 : Nat)) #[])
noncomputable def pre.o_160 (P : Params) : Obj := (Obj.mk (Value.type "tuple") none (Data.seq #[(Value.bytes #[(108 : UInt8), (111 : UInt8), (99 : UInt8), (97 : UInt8), (116 : UInt8), (105 : UInt8), (111 : UInt8), (110 : UInt8)] (463 : Nat)), (Value.bytes #[] (464 : Nat))] (0 : Nat)) #[])
noncomputable def pre.o_161 (P : Params) : Obj := (Obj.mk (Value.type "tuple") none (Data.seq #[(Value.bytes #[(109 : UInt8), (97 : UInt8), (120 : UInt8), (45 : UInt8), (102 : UInt8), (111 : UInt8), (114 : UInt8), (119 : UInt8), (97 : UInt8), (114 : UInt8), (100 : UInt8), (115 : UInt8)] (465 : Nat)), (Value.bytes #[] (466 : Nat))] (0 : Nat)) #[])
noncomputable def pre.o_162 (P : Params) : Obj := (Obj.mk (Value.type "tuple") none (Data.seq #[(Value.bytes #[(112 : UInt8), (114 : UInt8), (111 : UInt8), (120 : UInt8), (121 : UInt8), (45 : UInt8), (97 : UInt8), (117 : UInt8), (116 : UInt8), (104 : UInt8), (101 : UInt8), (110 : UInt8), (116 : UInt8), (105 : UInt8), (99 : UInt8), (97 : UInt8), (116 : UInt8), (101 : UInt8)] (467 : Nat)), (Value.bytes #[] (468 : Nat))] (0 : Nat)) #[])
noncomputable def pre.o_163 (P : Params) : Obj := (Obj.mk (Value.type "tuple") none (Data.seq #[(Value.bytes #[(112 : UInt8), (114 : UInt8), (111 : UInt8), (120 : UInt8), (121 : UInt8), (45 : UInt8), (97 : UInt8), (117 : UInt8), (116 : UInt8), (104 : UInt8), (111 : UInt8), (114 : UInt8), (105 : UInt8), (122 : UInt8), (97 : UInt8), (116 : UInt8), (105 : UInt8), (111 : UInt8), (110 : UInt8)] (469 : Nat)), (Value.bytes #[] (470 : Nat))] (0 : Nat)) #[])
noncomputable def pre.o_164 (P : Params) : Obj := (Obj.mk (Value.type "tuple") none (Data.seq #[(Value.bytes #[(114 : UInt8), (97 : UInt8), (110 : UInt8), (103 : UInt8), (101 : UInt8)] (471 : Nat)), (Value.bytes #[] (472 : Nat))] (0 : Nat)) #[])
noncomputable def pre.o_165 (P : Params) : Obj := (Obj.mk (Value.type "tuple") none (Data.seq #[(Value.bytes #[(114 : UInt8), (101 : UInt8), (102 : UInt8), (101 : UInt8), (114 : UInt8), (101 : UInt8), (114 : UInt8)] (473 : Nat)), (Value.bytes #[] (474 : Nat))] (0 : Nat)) #[])
noncomputable def pre.o_166 (P : Params) : Obj := (Obj.mk (Value.type "tuple") none (Data.seq #[(Value.bytes #[(114 : UInt8), (101 : UInt8), (102 : UInt8), (114 : UInt8), (101 : UInt8), (115 : UInt8), (104 : UInt8)] (475 : Nat)), (Value.bytes #[] (476 : Nat))] (0 : Nat)) #[])
noncomputable def pre.o_167 (P : Params) : Obj := (Obj.mk (Value.type "tuple") none (Data.seq #[(Value.bytes #[(114 : UInt8), (101 : UInt8), (116 : UInt8), (114 : UInt8), (121 : UInt8), (45 : UInt8), (97 : UInt8), (102 : UInt8), (116 : UInt8), (101 : UInt8), (114 : UInt8)] (477 : Nat)), (Value.bytes #[] (478 : Nat))] (0 : Nat)) #[])
noncomputable def pre.o_168 (P : Params) : Obj := (Obj.mk (Value.type "tuple") none (Data.seq #[(Value.bytes #[(115 : UInt8), (101 : UInt8), (114 : UInt8), (118 : UInt8), (101 : UInt8), (114 : UInt8)] (479 : Nat)), (Value.bytes #[] (480 : Nat))] (0 : Nat)) #[])
noncomputable def pre.o_169 (P : Params) : Obj := (Obj.mk (Value.type "tuple") none (Data.seq #[(Value.bytes #[(115 : UInt8), (101 : UInt8), (116 : UInt8), (45 : UInt8), (99 : UInt8), (111 : UInt8), (111 : UInt8), (107 : UInt8), (105 : UInt8), (101 : UInt8)] (481 : Nat)), (Value.bytes #[] (482 : Nat))] (0 : Nat)) #[])
noncomputable def pre.o_170 (P : Params) : Obj := (Obj.mk (Value.type "tuple") none (Data.seq #[(Value.bytes #[(115 : UInt8), (116 : UInt8), (114 : UInt8), (105 : UInt8), (99 : UInt8), (116 : UInt8), (45 : UInt8), (116 : UInt8), (114 : UInt8), (97 : UInt8), (110 : UInt8), (115 : UInt8), (112 : UInt8), (111 : UInt8), (114 : UInt8), (116 : UInt8), (45 : UInt8), (115 : UInt8), (101 : UInt8), (99 : UInt8), (117 : UInt8), (114 : UInt8), (105 : UInt8), (116 : UInt8), (121 : UInt8)] (483 : Nat)), (Value.bytes #[] (484 : Nat))] (0 : Nat)) #[])
noncomputable def pre.o_171 (P : Params) : Obj := (Obj.mk (Value.type "tuple") none (Data.seq #[(Value.bytes #[(116 : UInt8), (114 : UInt8), (97 : UInt8), (110 : UInt8), (115 : UInt8), (102 : UInt8), (101 : UInt8), (114 : UInt8), (45 : UInt8), (101 : UInt8), (110 : UInt8), (99 : UInt8), (111 : UInt8), (100 : UInt8), (105 : UInt8), (110 : UInt8), (103 : UInt8)] (485 : Nat)), (Value.bytes #[] (486 : Nat))] (0 : Nat)) #[])
noncomputable def pre.o_172 (P : Params) : Obj := (Obj.mk (Value.type "tuple") none (Data.seq #[(Value.bytes #[(117 : UInt8), (115 : UInt8), (101 : UInt8), (114 : UInt8), (45 : UInt8), (97 : UInt8), (103 : UInt8), (101 : UInt8), (110 : UInt8), (116 : UInt8)] (487 : Nat)), (Value.bytes #[] (488 : Nat))] (0 : Nat)) #[])
noncomputable def pre.o_173 (P : Params) : Obj := (Obj.mk (Value.type "tuple") none (Data.seq #[(Value.bytes #[(118 : UInt8), (97 : UInt8), (114 : UInt8), (121 : UInt8)] (489 : Nat)), (Value.bytes #[] (490 : Nat))] (0 : Nat)) #[])
noncomputable def pre.o_174 (P : Params) : Obj := (Obj.mk (Value.type "tuple") none (Data.seq #[(Value.bytes #[(118 : UInt8), (105 : UInt8), (97 : UInt8)] (491 : Nat)), (Value.bytes #[] (492 : Nat))] (0 : Nat)) #[])
noncomputable def pre.o_175 (P : Params) : Obj := (Obj.mk (Value.type "tuple") none (Data.seq #[(Value.bytes #[(119 : UInt8), (119 : UInt8), (119 : UInt8), (45 : UInt8), (97 : UInt8), (117 : UInt8), (116 : UInt8), (104 : UInt8), (101 : UInt8), (110 : UInt8), (116 : UInt8), (105 : UInt8), (99 : UInt8), (97 : UInt8), (116 : UInt8), (101 : UInt8)] (493 : Nat)), (Value.bytes #[] (494 : Nat))] (0 : Nat)) #[])
noncomputable def pre.o_176 (P : Params) : Obj := (Obj.mk (Value.type "tuple") none (Data.seq #[(Value.ref (96 : Nat)), (Value.ref (97 : Nat)), (Value.ref (98 : Nat)), (Value.ref (99 : Nat)), (Value.ref (100 : Nat)), (Value.ref (101 : Nat)), (Value.ref (102 : Nat)), (Value.ref (103 : Nat)), (Value.ref (104 : Nat)), (Value.ref (105 : Nat)), (Value.ref (106 : Nat)), (Value.ref (107 : Nat)), (Value.ref (108 : Nat)), (Value.ref (109 : Nat)), (Value.ref (110 : Nat)), (Value.ref (111 : Nat)), (Value.ref (112 : Nat)), (Value.ref (113 : Nat)), (Value.ref (114 : Nat)), (Value.ref (115 : Nat)), (Value.ref (116 : Nat)), (Value.ref (117 : Nat)), (Value.ref (118 : Nat)), (Value.ref (119 : Nat)), (Value.ref (120 : Nat)), (Value.ref (121 : Nat)), (Value.ref (122 : Nat)), (Value.ref (123 : Nat)), (Value.ref (124 : Nat)), (Value.ref (125 : Nat)), (Value.ref (126 : Nat)), (Value.ref (127 : Nat)), (Value.ref (128 : Nat)), (Value.ref (129 : Nat)), (Value.ref (130 : Nat)), (Value.ref (131 : Nat)), (Value.ref (132 : Nat)), (Value.ref (133 : Nat)), (Value.ref (134 : Nat)), (Value.ref (135 : Nat)), (Value.ref (136 : Nat)), (Value.ref (137 : Nat)), (Value.ref (138 : Nat)), (Value.ref (139 : Nat)), (Value.ref (140 : Nat)), (Value.ref (141 : Nat)), (Value.ref (142 : Nat)), (Value.ref (143 : Nat)), (Value.ref (144 : Nat)), (Value.ref (145 : Nat)), (Value.ref (146 : Nat)), (Value.ref (147 : Nat)), (Value.ref (148 : Nat)), (Value.ref (149 : Nat)), (Value.ref (150 : Nat)), (Value.ref (151 : Nat)), (Value.ref (152 : Nat)), (Value.ref (153 : Nat)), (Value.ref (154 : Nat)), (Value.ref (155 : Nat)), (Value.ref (156 : Nat))] (0 : Nat)) #[])
noncomputable def pre.o_177 : Params → Obj := boot_o_7
noncomputable def pre.o_178 : Params → Obj := boot_o_8
noncomputable def pre.o_179 (P : Params) : Obj := (Obj.mk (Value.type "tuple") none (Data.seq #[(Value.str (Str.ofString "self") (502 : Nat))] (0 : Nat)) #[])
noncomputable def pre.o_180 : Params → Obj := boot_o_7
noncomputable def pre.o_181 (P : Params) : Obj := (Obj.mk Value.none none (Data.func (FuncData.mk (Str.ofString "__init__") (Str.ofString "HeaderTable.__init__") (fnParams (cst 7 3)) (FuncBody.stmts (fnBody (cst 7 3))) (fnScope (cst 7 3)) (0 : Nat) [] Value.none Value.none Value.none Value.none none Value.none Value.none (0 : Nat))) #[])
noncomputable def pre.o_182 (P : Params) : Obj := (Obj.mk (Value.type "code") none (Data.fields #[(Value.str (Str.ofString "__init__") (499 : Nat)), (Value.str (Str.ofString "HeaderTable.__init__") (500 : Nat)), (Value.str (Str.ofString "/claim/cut.py") (501 : Nat)), (Value.int (19 : Int) (0 : Nat)), (Value.int (1 : Int) (0 : Nat)), (Value.int (0 : Int) (0 : Nat)), (Value.int (0 : Int) (0 : Nat)), (Value.int (3 : Int) (0 : Nat)), (Value.ref (158 : Nat)), (Value.bool true), (Value.int (273 : Int) (0 : Nat)), (Value.ref (159 : Nat)), Value.none, (Value.ref (160 : Nat)), (Value.ref (161 : Nat)), (Value.ref (162 : Nat)), (Value.int (503 : Int) (0 : Nat)), (Value.int (19 : Int) (0 : Nat)), (Value.str (Str.ofString "/claim/cut.py") (504 : Nat))]) #[])
noncomputable def pre.o_183 (P : Params) : Obj := (Obj.mk (Value.type "function") none (Data.func (FuncData.mk (Str.ofString "__init__") (Str.ofString "HeaderTable.__init__") (fnParams (cst 7 3)) (FuncBody.stmts (fnBody (cst 7 3))) (fnScope (cst 7 3)) (3 : Nat) [] Value.none Value.none Value.none (Value.str (Str.ofString "hpack.table") (349 : Nat)) none (Value.ref (163 : Nat)) Value.none (0 : Nat))) #[])
noncomputable def pre.o_184 : Params → Obj := boot_o_7
noncomputable def pre.o_185 : Params → Obj := boot_o_8
noncomputable def pre.o_186 (P : Params) : Obj := (Obj.mk (Value.type "tuple") none (Data.seq #[(Value.str (Str.ofString "self") (509 : Nat)), (Value.str (Str.ofString "index") (510 : Nat)), (Value.str (Str.ofString "original_index") (511 : Nat))] (0 : Nat)) #[])
noncomputable def pre.o_187 : Params → Obj := boot_o_7
noncomputable def pre.o_188 (P : Params) : Obj := (Obj.mk Value.none none (Data.func (FuncData.mk (Str.ofString "get_by_index") (Str.ofString "HeaderTable.get_by_index") (fnParams (cst 7 4)) (FuncBody.stmts (fnBody (cst 7 4))) (fnScope (cst 7 4)) (0 : Nat) [] Value.none Value.none Value.none Value.none none Value.none Value.none (0 : Nat))) #[])
noncomputable def pre.o_189 (P : Params) : Obj := (Obj.mk (Value.type "code") none (Data.fields #[(Value.str (Str.ofString "get_by_index") (506 : Nat)), (Value.str (Str.ofString "HeaderTable.get_by_index") (507 : Nat)), (Value.str (Str.ofString "/claim/cut.py") (508 : Nat)), (Value.int (25 : Int) (0 : Nat)), (Value.int (2 : Int) (0 : Nat)), (Value.int (0 : Int) (0 : Nat)), (Value.int (0 : Int) (0 : Nat)), (Value.int (3 : Int) (0 : Nat)), (Value.ref (165 : Nat)), (Value.bool true), (Value.int (273 : Int) (0 : Nat)), (Value.ref (166 : Nat)), Value.none, (Value.ref (167 : Nat)), (Value.ref (168 : Nat)), (Value.ref (169 : Nat)), (Value.int (512 : Int) (0 : Nat)), (Value.int (25 : Int) (0 : Nat)), (Value.str (Str.ofString "/claim/cut.py") (513 : Nat))]) #[])
noncomputable def pre.o_190 (P : Params) : Obj := (Obj.mk (Value.type "function") none (Data.func (FuncData.mk (Str.ofString "get_by_index") (Str.ofString "HeaderTable.get_by_index") (fnParams (cst 7 4)) (FuncBody.stmts (fnBody (cst 7 4))) (fnScope (cst 7 4)) (3 : Nat) [] Value.none Value.none Value.none (Value.str (Str.ofString "hpack.table") (349 : Nat)) none (Value.ref (170 : Nat)) Value.none (0 : Nat))) #[])
noncomputable def pre.o_191 : Params → Obj := boot_o_7
noncomputable def pre.o_192 : Params → Obj := boot_o_8
noncomputable def pre.o_193 (P : Params) : Obj := (Obj.mk (Value.type "tuple") none (Data.seq #[(Value.str (Str.ofString "self") (518 : Nat))] (0 : Nat)) #[])
noncomputable def pre.o_194 : Params → Obj := boot_o_7
noncomputable def pre.o_195 (P : Params) : Obj := (Obj.mk Value.none none (Data.func (FuncData.mk (Str.ofString "__repr__") (Str.ofString "HeaderTable.__repr__") (fnParams (cst 7 5)) (FuncBody.stmts (fnBody (cst 7 5))) (fnScope (cst 7 5)) (0 : Nat) [] Value.none Value.none Value.none Value.none none Value.none Value.none (0 : Nat))) #[])
noncomputable def pre.o_196 (P : Params) : Obj := (Obj.mk (Value.type "code") none (Data.fields #[(Value.str (Str.ofString "__repr__") (515 : Nat)), (Value.str (Str.ofString "HeaderTable.__repr__") (516 : Nat)), (Value.str (Str.ofString "/claim/cut.py") (517 : Nat)), (Value.int (36 : Int) (0 : Nat)), (Value.int (1 : Int) (0 : Nat)), (Value.int (0 : Int) (0 : Nat)), (Value.int (0 : Int) (0 : Nat)), (Value.int (3 : Int) (0 : Nat)), (Value.ref (172 : Nat)), (Value.bool true), (Value.int (273 : Int) (0 : Nat)), (Value.ref (173 : Nat)), Value.none, (Value.ref (174 : Nat)), (Value.ref (175 : Nat)), (Value.ref (176 : Nat)), (Value.int (519 : Int) (0 : Nat)), (Value.int (36 : Int) (0 : Nat)), (Value.str (Str.ofString "/claim/cut.py") (520 : Nat))]) #[])
noncomputable def pre.o_197 (P : Params) : Obj := (Obj.mk (Value.type "function") none (Data.func (FuncData.mk (Str.ofString "__repr__") (Str.ofString "HeaderTable.__repr__") (fnParams (cst 7 5)) (FuncBody.stmts (fnBody (cst 7 5))) (fnScope (cst 7 5)) (3 : Nat) [] Value.none Value.none Value.none (Value.str (Str.ofString "hpack.table") (349 : Nat)) none (Value.ref (177 : Nat)) Value.none (0 : Nat))) #[])
noncomputable def pre.o_198 : Params → Obj := boot_o_7
noncomputable def pre.o_199 : Params → Obj := boot_o_8
noncomputable def pre.o_200 (P : Params) : Obj := (Obj.mk (Value.type "tuple") none (Data.seq #[(Value.str (Str.ofString "self") (525 : Nat)), (Value.str (Str.ofString "name") (526 : Nat)), (Value.str (Str.ofString "value") (527 : Nat)), (Value.str (Str.ofString "size") (528 : Nat))] (0 : Nat)) #[])
noncomputable def pre.o_201 : Params → Obj := boot_o_7
noncomputable def pre.o_202 (P : Params) : Obj := (Obj.mk Value.none none (Data.func (FuncData.mk (Str.ofString "add") (Str.ofString "HeaderTable.add") (fnParams (cst 7 6)) (FuncBody.stmts (fnBody (cst 7 6))) (fnScope (cst 7 6)) (0 : Nat) [] Value.none Value.none Value.none Value.none none Value.none Value.none (0 : Nat))) #[])
noncomputable def pre.o_203 (P : Params) : Obj := (Obj.mk (Value.type "code") none (Data.fields #[(Value.str (Str.ofString "add") (522 : Nat)), (Value.str (Str.ofString "HeaderTable.add") (523 : Nat)), (Value.str (Str.ofString "/claim/cut.py") (524 : Nat)), (Value.int (39 : Int) (0 : Nat)), (Value.int (3 : Int) (0 : Nat)), (Value.int (0 : Int) (0 : Nat)), (Value.int (0 : Int) (0 : Nat)), (Value.int (3 : Int) (0 : Nat)), (Value.ref (179 : Nat)), (Value.bool true), (Value.int (273 : Int) (0 : Nat)), (Value.ref (180 : Nat)), Value.none, (Value.ref (181 : Nat)), (Value.ref (182 : Nat)), (Value.ref (183 : Nat)), (Value.int (529 : Int) (0 : Nat)), (Value.int (39 : Int) (0 : Nat)), (Value.str (Str.ofString "/claim/cut.py") (530 : Nat))]) #[])
noncomputable def pre.o_204 (P : Params) : Obj := (Obj.mk (Value.type "function") none (Data.func (FuncData.mk (Str.ofString "add") (Str.ofString "HeaderTable.add") (fnParams (cst 7 6)) (FuncBody.stmts (fnBody (cst 7 6))) (fnScope (cst 7 6)) (3 : Nat) [] Value.none Value.none Value.none (Value.str (Str.ofString "hpack.table") (349 : Nat)) none (Value.ref (184 : Nat)) Value.none (0 : Nat))) #[])
noncomputable def pre.o_205 : Params → Obj := boot_o_7
noncomputable def pre.o_206 : Params → Obj := boot_o_8
noncomputable def pre.o_207 (P : Params) : Obj := (Obj.mk (Value.type "tuple") none (Data.seq #[(Value.str (Str.ofString "self") (535 : Nat)), (Value.str (Str.ofString "name") (536 : Nat)), (Value.str (Str.ofString "value") (537 : Nat)), (Value.str (Str.ofString "partial") (538 : Nat)), (Value.str (Str.ofString "header_name_search_result") (539 : Nat)), (Value.str (Str.ofString "index") (540 : Nat)), (Value.str (Str.ofString "offset") (541 : Nat)), (Value.str (Str.ofString "i") (542 : Nat)), (Value.str (Str.ofString "n") (543 : Nat)), (Value.str (Str.ofString "v") (544 : Nat))] (0 : Nat)) #[])
noncomputable def pre.o_208 : Params → Obj := boot_o_7
noncomputable def pre.o_209 (P : Params) : Obj := (Obj.mk Value.none none (Data.func (FuncData.mk (Str.ofString "search") (Str.ofString "HeaderTable.search") (fnParams (cst 7 7)) (FuncBody.stmts (fnBody (cst 7 7))) (fnScope (cst 7 7)) (0 : Nat) [] Value.none Value.none Value.none Value.none none Value.none Value.none (0 : Nat))) #[])
noncomputable def pre.o_210 (P : Params) : Obj := (Obj.mk (Value.type "code") none (Data.fields #[(Value.str (Str.ofString "search") (532 : Nat)), (Value.str (Str.ofString "HeaderTable.search") (533 : Nat)), (Value.str (Str.ofString "/claim/cut.py") (534 : Nat)), (Value.int (49 : Int) (0 : Nat)), (Value.int (3 : Int) (0 : Nat)), (Value.int (0 : Int) (0 : Nat)), (Value.int (0 : Int) (0 : Nat)), (Value.int (3 : Int) (0 : Nat)), (Value.ref (186 : Nat)), (Value.bool true), (Value.int (273 : Int) (0 : Nat)), (Value.ref (187 : Nat)), Value.none, (Value.ref (188 : Nat)), (Value.ref (189 : Nat)), (Value.ref (190 : Nat)), (Value.int (545 : Int) (0 : Nat)), (Value.int (49 : Int) (0 : Nat)), (Value.str (Str.ofString "/claim/cut.py") (546 : Nat))]) #[])
noncomputable def pre.o_211 (P : Params) : Obj := (Obj.mk (Value.type "function") none (Data.func (FuncData.mk (Str.ofString "search") (Str.ofString "HeaderTable.search") (fnParams (cst 7 7)) (FuncBody.stmts (fnBody (cst 7 7))) (fnScope (cst 7 7)) (3 : Nat) [] Value.none Value.none Value.none (Value.str (Str.ofString "hpack.table") (349 : Nat)) none (Value.ref (191 : Nat)) Value.none (0 : Nat))) #[])
noncomputable def pre.o_212 : Params → Obj := boot_o_7
noncomputable def pre.o_213 : Params → Obj := boot_o_8
noncomputable def pre.o_214 (P : Params) : Obj := (Obj.mk (Value.type "tuple") none (Data.seq #[(Value.str (Str.ofString "self") (551 : Nat))] (0 : Nat)) #[])
noncomputable def pre.o_215 : Params → Obj := boot_o_7
noncomputable def pre.o_216 (P : Params) : Obj := (Obj.mk Value.none none (Data.func (FuncData.mk (Str.ofString "maxsize") (Str.ofString "HeaderTable.maxsize") (fnParams (cst 7 8)) (FuncBody.stmts (fnBody (cst 7 8))) (fnScope (cst 7 5)) (0 : Nat) [] Value.none Value.none Value.none Value.none none Value.none Value.none (0 : Nat))) #[])
noncomputable def pre.o_217 (P : Params) : Obj := (Obj.mk (Value.type "code") none (Data.fields #[(Value.str (Str.ofString "maxsize") (548 : Nat)), (Value.str (Str.ofString "HeaderTable.maxsize") (549 : Nat)), (Value.str (Str.ofString "/claim/cut.py") (550 : Nat)), (Value.int (67 : Int) (0 : Nat)), (Value.int (1 : Int) (0 : Nat)), (Value.int (0 : Int) (0 : Nat)), (Value.int (0 : Int) (0 : Nat)), (Value.int (3 : Int) (0 : Nat)), (Value.ref (193 : Nat)), (Value.bool true), (Value.int (273 : Int) (0 : Nat)), (Value.ref (194 : Nat)), Value.none, (Value.ref (195 : Nat)), (Value.ref (196 : Nat)), (Value.ref (197 : Nat)), (Value.int (552 : Int) (0 : Nat)), (Value.int (67 : Int) (0 : Nat)), (Value.str (Str.ofString "/claim/cut.py") (553 : Nat))]) #[])
noncomputable def pre.o_218 (P : Params) : Obj := (Obj.mk (Value.type "function") none (Data.func (FuncData.mk (Str.ofString "maxsize") (Str.ofString "HeaderTable.maxsize") (fnParams (cst 7 8)) (FuncBody.stmts (fnBody (cst 7 8))) (fnScope (cst 7 5)) (3 : Nat) [] Value.none Value.none Value.none (Value.str (Str.ofString "hpack.table") (349 : Nat)) none (Value.ref (198 : Nat)) Value.none (0 : Nat))) #[])
noncomputable def pre.o_219 (P : Params) : Obj := (Obj.mk (Value.type "property") none (Data.fields #[(Value.ref (199 : Nat)), Value.none, Value.none, Value.none, (Value.int (0 : Int) (0 : Nat)), (Value.bool false)]) #[])
noncomputable def pre.o_220 (P : Params) : Obj := (Obj.mk (Value.type "builtin_function_or_method") none (Data.fields #[(Value.builtin "property.setter"), (Value.ref (200 : Nat))]) #[])
noncomputable def pre.o_221 : Params → Obj := boot_o_7
noncomputable def pre.o_222 : Params → Obj := boot_o_8
noncomputable def pre.o_223 (P : Params) : Obj := (Obj.mk (Value.type "tuple") none (Data.seq #[(Value.str (Str.ofString "self") (560 : Nat)), (Value.str (Str.ofString "newmax") (561 : Nat)), (Value.str (Str.ofString "oldmax") (562 : Nat))] (0 : Nat)) #[])
noncomputable def pre.o_224 : Params → Obj := boot_o_7
noncomputable def pre.o_225 (P : Params) : Obj := (Obj.mk Value.none none (Data.func (FuncData.mk (Str.ofString "maxsize") (Str.ofString "HeaderTable.maxsize") (fnParams (cst 7 9)) (FuncBody.stmts (fnBody (cst 7 9))) (fnScope (cst 7 9)) (0 : Nat) [] Value.none Value.none Value.none Value.none none Value.none Value.none (0 : Nat))) #[])
noncomputable def pre.o_226 (P : Params) : Obj := (Obj.mk (Value.type "code") none (Data.fields #[(Value.str (Str.ofString "maxsize") (557 : Nat)), (Value.str (Str.ofString "HeaderTable.maxsize") (558 : Nat)), (Value.str (Str.ofString "/claim/cut.py") (559 : Nat)), (Value.int (71 : Int) (0 : Nat)), (Value.int (2 : Int) (0 : Nat)), (Value.int (0 : Int) (0 : Nat)), (Value.int (0 : Int) (0 : Nat)), (Value.int (3 : Int) (0 : Nat)), (Value.ref (202 : Nat)), (Value.bool true), (Value.int (273 : Int) (0 : Nat)), (Value.ref (203 : Nat)), Value.none, (Value.ref (204 : Nat)), (Value.ref (205 : Nat)), (Value.ref (206 : Nat)), (Value.int (563 : Int) (0 : Nat)), (Value.int (71 : Int) (0 : Nat)), (Value.str (Str.ofString "/claim/cut.py") (564 : Nat))]) #[])
noncomputable def pre.o_227 (P : Params) : Obj := (Obj.mk (Value.type "function") none (Data.func (FuncData.mk (Str.ofString "maxsize") (Str.ofString "HeaderTable.maxsize") (fnParams (cst 7 9)) (FuncBody.stmts (fnBody (cst 7 9))) (fnScope (cst 7 9)) (3 : Nat) [] Value.none Value.none Value.none (Value.str (Str.ofString "hpack.table") (349 : Nat)) none (Value.ref (207 : Nat)) Value.none (0 : Nat))) #[])
noncomputable def pre.o_228 (P : Params) : Obj := (Obj.mk (Value.type "property") none (Data.fields #[(Value.ref (199 : Nat)), (Value.ref (208 : Nat)), Value.none, Value.none, (Value.str (Str.ofString "maxsize") (555 : Nat)), (Value.bool false)]) #[])
noncomputable def pre.o_229 : Params → Obj := boot_o_7
noncomputable def pre.o_230 : Params → Obj := boot_o_8
noncomputable def pre.o_231 (P : Params) : Obj := (Obj.mk (Value.type "tuple") none (Data.seq #[(Value.str (Str.ofString "self") (570 : Nat)), (Value.str (Str.ofString "cursize") (571 : Nat)), (Value.str (Str.ofString "name") (572 : Nat)), (Value.str (Str.ofString "value") (573 : Nat))] (0 : Nat)) #[])
noncomputable def pre.o_232 : Params → Obj := boot_o_7
noncomputable def pre.o_233 (P : Params) : Obj := (Obj.mk Value.none none (Data.func (FuncData.mk (Str.ofString "_shrink") (Str.ofString "HeaderTable._shrink") (fnParams (cst 7 10)) (FuncBody.stmts (fnBody (cst 7 10))) (fnScope (cst 7 10)) (0 : Nat) [] Value.none Value.none Value.none Value.none none Value.none Value.none (0 : Nat))) #[])
noncomputable def pre.o_234 (P : Params) : Obj := (Obj.mk (Value.type "code") none (Data.fields #[(Value.str (Str.ofString "_shrink") (567 : Nat)), (Value.str (Str.ofString "HeaderTable._shrink") (568 : Nat)), (Value.str (Str.ofString "/claim/cut.py") (569 : Nat)), (Value.int (83 : Int) (0 : Nat)), (Value.int (1 : Int) (0 : Nat)), (Value.int (0 : Int) (0 : Nat)), (Value.int (0 : Int) (0 : Nat)), (Value.int (3 : Int) (0 : Nat)), (Value.ref (210 : Nat)), (Value.bool true), (Value.int (273 : Int) (0 : Nat)), (Value.ref (211 : Nat)), Value.none, (Value.ref (212 : Nat)), (Value.ref (213 : Nat)), (Value.ref (214 : Nat)), (Value.int (574 : Int) (0 : Nat)), (Value.int (83 : Int) (0 : Nat)), (Value.str (Str.ofString "/claim/cut.py") (575 : Nat))]) #[])
noncomputable def pre.o_235 (P : Params) : Obj := (Obj.mk (Value.type "function") none (Data.func (FuncData.mk (Str.ofString "_shrink") (Str.ofString "HeaderTable._shrink") (fnParams (cst 7 10)) (FuncBody.stmts (fnBody (cst 7 10))) (fnScope (cst 7 10)) (3 : Nat) [] Value.none Value.none Value.none (Value.str (Str.ofString "hpack.table") (349 : Nat)) none (Value.ref (215 : Nat)) Value.none (0 : Nat))) #[])
noncomputable def pre.o_236 (P : Params) : Obj := (Obj.mk (Value.type "tuple") none (Data.seq #[(Value.str (Str.ofString "_current_size") (577 : Nat)), (Value.str (Str.ofString "_maxsize") (578 : Nat)), (Value.str (Str.ofString "dynamic_entries") (579 : Nat)), (Value.str (Str.ofString "resized") (580 : Nat))] (0 : Nat)) #[])
noncomputable def pre.o_237 (P : Params) : Obj := (Obj.mk (Value.type "dict") none (Data.dict #[(DictEntry.mk (PyData.keyHash P (Str.ofString "__module__")) (Value.str (Str.ofString "__module__") (366 : Nat)) (Value.str (Str.ofString "hpack.table") (349 : Nat))), (DictEntry.mk (PyData.keyHash P (Str.ofString "__firstlineno__")) (Value.str (Str.ofString "__firstlineno__") (370 : Nat)) (Value.int (14 : Int) (369 : Nat))), (DictEntry.mk (PyData.keyHash P (Str.ofString "DEFAULT_SIZE")) (Value.str (Str.ofString "DEFAULT_SIZE") (372 : Nat)) (Value.int (4096 : Int) (371 : Nat))), (DictEntry.mk (PyData.keyHash P (Str.ofString "STATIC_TABLE")) (Value.str (Str.ofString "STATIC_TABLE") (495 : Nat)) (Value.ref (157 : Nat))), (DictEntry.mk (PyData.keyHash P (Str.ofString "STATIC_TABLE_LENGTH")) (Value.str (Str.ofString "STATIC_TABLE_LENGTH") (498 : Nat)) (Value.int (61 : Int) (497 : Nat))), (DictEntry.mk (PyData.keyHash P (Str.ofString "__init__")) (Value.str (Str.ofString "__init__") (505 : Nat)) (Value.ref (164 : Nat))), (DictEntry.mk (PyData.keyHash P (Str.ofString "get_by_index")) (Value.str (Str.ofString "get_by_index") (514 : Nat)) (Value.ref (171 : Nat))), (DictEntry.mk (PyData.keyHash P (Str.ofString "__repr__")) (Value.str (Str.ofString "__repr__") (521 : Nat)) (Value.ref (178 : Nat))), (DictEntry.mk (PyData.keyHash P (Str.ofString "add")) (Value.str (Str.ofString "add") (531 : Nat)) (Value.ref (185 : Nat))), (DictEntry.mk (PyData.keyHash P (Str.ofString "search")) (Value.str (Str.ofString "search") (547 : Nat)) (Value.ref (192 : Nat))), (DictEntry.mk (PyData.keyHash P (Str.ofString "maxsize")) (Value.str (Str.ofString "maxsize") (555 : Nat)) (Value.ref (209 : Nat))), (DictEntry.mk (PyData.keyHash P (Str.ofString "_shrink")) (Value.str (Str.ofString "_shrink") (576 : Nat)) (Value.ref (216 : Nat))), (DictEntry.mk (PyData.keyHash P (Str.ofString "__static_attributes__")) (Value.str (Str.ofString "__static_attributes__") (581 : Nat)) (Value.ref (217 : Nat))), (DictEntry.mk (PyData.keyHash P (Str.ofString "__dict__")) (Value.str (Str.ofString "__dict__") (583 : Nat)) (Value.ref (220 : Nat))), (DictEntry.mk (PyData.keyHash P (Str.ofString "__weakref__")) (Value.str (Str.ofString "__weakref__") (585 : Nat)) (Value.ref (221 : Nat))), (DictEntry.mk (PyData.keyHash P (Str.ofString "__doc__")) (Value.str (Str.ofString "__doc__") (586 : Nat)) Value.none)] (4 : Nat)) #[])
noncomputable def pre.o_238 (P : Params) : Obj := (Obj.mk (Value.type "type") none (Data.cls (ClassData.mk (Str.ofString "HeaderTable") [(Value.type "object")] [(Value.ref (219 : Nat)), (Value.type "object")] (218 : Nat) (Str.ofString "HeaderTable") true [] [] false none false)) #[none, none, (Option.some (Value.str (Str.ofString "HeaderTable") (359 : Nat))), (Option.some (Value.str (Str.ofString "HeaderTable") (367 : Nat))), (Option.some (Value.builtin "object.__new__")), (Option.some (Value.bool true))])
noncomputable def pre.o_239 (P : Params) : Obj := (Obj.mk (Value.type "getset_descriptor") none (Data.fields #[(Value.str (Str.ofString "__dict__") (582 : Nat)), (Value.ref (219 : Nat)), (Value.builtin "function.__dict__"), (Value.builtin "function.__dict__#set")]) #[])
noncomputable def pre.o_240 (P : Params) : Obj := (Obj.mk (Value.type "getset_descriptor") none (Data.fields #[(Value.str (Str.ofString "__weakref__") (584 : Nat)), (Value.ref (219 : Nat)), (Value.builtin "ExceptionGroup.__weakref__"), Value.none]) #[])
noncomputable def pre.o_241 (P : Params) : Obj := (Obj.mk (Value.type "super") none (Data.fields #[(Value.ref (219 : Nat)), (Value.ref (219 : Nat)), (Value.ref (219 : Nat))]) #[])
noncomputable def pre.o_242 (P : Params) : Obj := (Obj.mk (Value.type "builtin_function_or_method") none (Data.fields #[(Value.builtin "object.__init_subclass__"), (Value.ref (219 : Nat))]) #[])
noncomputable def pre.o_328 (P : Params) : Obj := (Obj.mk (Value.type "dict") none (Data.dict #[(DictEntry.mk (PyData.keyHash P (Str.ofString "__name__")) (Value.str (Str.ofString "__name__") (165 : Nat)) (Value.str (Str.ofString "hpack.table") (349 : Nat))), (DictEntry.mk (PyData.keyHash P (Str.ofString "__doc__")) (Value.str (Str.ofString "__doc__") (166 : Nat)) Value.none), (DictEntry.mk (PyData.keyHash P (Str.ofString "__package__")) (Value.str (Str.ofString "__package__") (167 : Nat)) Value.none), (DictEntry.mk (PyData.keyHash P (Str.ofString "__loader__")) (Value.str (Str.ofString "__loader__") (168 : Nat)) (Value.builtin "__main__.__loader__#opaque")), (DictEntry.mk (PyData.keyHash P (Str.ofString "__spec__")) (Value.str (Str.ofString "__spec__") (169 : Nat)) Value.none), (DictEntry.mk (PyData.keyHash P (Str.ofString "__annotations__")) (Value.str (Str.ofString "__annotations__") (170 : Nat)) (Value.ref (6 : Nat))), (DictEntry.mk (PyData.keyHash P (Str.ofString "__builtins__")) (Value.str (Str.ofString "__builtins__") (171 : Nat)) (Value.ref (4 : Nat))), (DictEntry.mk (PyData.keyHash P (Str.ofString "__file__")) (Value.str (Str.ofString "__file__") (173 : Nat)) (Value.str (Str.ofString "/claim/cut.py") (172 : Nat))), (DictEntry.mk (PyData.keyHash P (Str.ofString "__cached__")) (Value.str (Str.ofString "__cached__") (174 : Nat)) Value.none), (DictEntry.mk (PyData.keyHash P (Str.ofString "deque")) (Value.str (Str.ofString "deque") (272 : Nat)) (Value.type "collections.deque")), (DictEntry.mk (PyData.keyHash P (Str.ofString "HPACKError")) (Value.str (Str.ofString "HPACKError") (300 : Nat)) (Value.ref (42 : Nat))), (DictEntry.mk (PyData.keyHash P (Str.ofString "HPACKDecodingError")) (Value.str (Str.ofString "HPACKDecodingError") (316 : Nat)) (Value.ref (55 : Nat))), (DictEntry.mk (PyData.keyHash P (Str.ofString "InvalidTableIndexError")) (Value.str (Str.ofString "InvalidTableIndexError") (332 : Nat)) (Value.ref (67 : Nat))), (DictEntry.mk (PyData.keyHash P (Str.ofString "InvalidTableIndex")) (Value.str (Str.ofString "InvalidTableIndex") (348 : Nat)) (Value.ref (79 : Nat))), (DictEntry.mk (PyData.keyHash P (Str.ofString "table_entry_size")) (Value.str (Str.ofString "table_entry_size") (358 : Nat)) (Value.ref (88 : Nat))), (DictEntry.mk (PyData.keyHash P (Str.ofString "HeaderTable")) (Value.str (Str.ofString "HeaderTable") (588 : Nat)) (Value.ref (219 : Nat))), (DictEntry.mk (PyData.keyHash P (Str.ofString "_build_static_table_mapping")) (Value.str (Str.ofString "_build_static_table_mapping") (599 : Nat)) (Value.ref (230 : Nat)))] (17 : Nat)) #[])
noncomputable def pre.o_329 (P : Params) : Obj := (Obj.mk Value.none none (Data.fields #[(Value.int (3 : Int) (0 : Nat)), (Value.int (0 : Int) (0 : Nat)), (Value.ref (38 : Nat)), (Value.int (5 : Int) (0 : Nat)), (Value.int (0 : Int) (0 : Nat)), (Value.ref (51 : Nat)), (Value.int (7 : Int) (0 : Nat)), (Value.int (0 : Int) (0 : Nat)), (Value.ref (63 : Nat)), (Value.int (9 : Int) (0 : Nat)), (Value.int (0 : Int) (0 : Nat)), (Value.ref (75 : Nat)), (Value.int (12 : Int) (0 : Nat)), (Value.int (0 : Int) (0 : Nat)), (Value.ref (87 : Nat)), (Value.int (14 : Int) (0 : Nat)), (Value.int (0 : Int) (0 : Nat)), (Value.ref (94 : Nat)), (Value.int (89 : Int) (0 : Nat)), (Value.int (0 : Int) (0 : Nat)), (Value.ref (229 : Nat))]) #[])
noncomputable def pre.o_330 : Params → Obj := boot_o_7
noncomputable def pre.o_331 : Params → Obj := boot_o_8
noncomputable def pre.o_332 (P : Params) : Obj := (Obj.mk (Value.type "tuple") none (Data.seq #[(Value.str (Str.ofString "static_table_mapping") (592 : Nat)), (Value.str (Str.ofString "index") (593 : Nat)), (Value.str (Str.ofString "name") (594 : Nat)), (Value.str (Str.ofString "value") (595 : Nat)), (Value.str (Str.ofString "header_name_search_result") (596 : Nat))] (0 : Nat)) #[])
noncomputable def pre.o_333 : Params → Obj := boot_o_7
noncomputable def pre.o_334 (P : Params) : Obj := (Obj.mk Value.none none (Data.func (FuncData.mk (Str.ofString "_build_static_table_mapping") (Str.ofString "_build_static_table_mapping") (fnParams (st 8)) (FuncBody.stmts (fnBody (st 8))) (fnScope (st 8)) (0 : Nat) [] Value.none Value.none Value.none Value.none none Value.none Value.none (0 : Nat))) #[])
noncomputable def pre.o_335 (P : Params) : Obj := (Obj.mk (Value.type "code") none (Data.fields #[(Value.str (Str.ofString "_build_static_table_mapping") (589 : Nat)), (Value.str (Str.ofString "_build_static_table_mapping") (590 : Nat)), (Value.str (Str.ofString "/claim/cut.py") (591 : Nat)), (Value.int (89 : Int) (0 : Nat)), (Value.int (0 : Int) (0 : Nat)), (Value.int (0 : Int) (0 : Nat)), (Value.int (0 : Int) (0 : Nat)), (Value.int (3 : Int) (0 : Nat)), (Value.ref (224 : Nat)), (Value.bool true), (Value.int (273 : Int) (0 : Nat)), (Value.ref (225 : Nat)), Value.none, (Value.ref (226 : Nat)), (Value.ref (227 : Nat)), (Value.ref (228 : Nat)), (Value.int (597 : Int) (0 : Nat)), (Value.int (89 : Int) (0 : Nat)), (Value.str (Str.ofString "/claim/cut.py") (598 : Nat))]) #[])
noncomputable def pre.o_336 (P : Params) : Obj := (Obj.mk (Value.type "function") none (Data.func (FuncData.mk (Str.ofString "_build_static_table_mapping") (Str.ofString "_build_static_table_mapping") (fnParams (st 8)) (FuncBody.stmts (fnBody (st 8))) (fnScope (st 8)) (3 : Nat) [] Value.none Value.none Value.none (Value.str (Str.ofString "hpack.table") (349 : Nat)) none (Value.ref (229 : Nat)) Value.none (0 : Nat))) #[])
noncomputable def pre.tree_33 (P : Params) : BT := (BT.node (pre.o_1 P) (BT.node (pre.o_2 P) (BT.node (pre.o_4 P) (BT.node (pre.o_8 P) (BT.node (pre.o_16 P) (BT.node (pre.o_32 P) BT.nil BT.nil) BT.nil) (BT.node (pre.o_24 P) BT.nil BT.nil)) (BT.node (pre.o_12 P) (BT.node (pre.o_20 P) BT.nil BT.nil) (BT.node (pre.o_28 P) BT.nil BT.nil))) (BT.node (pre.o_6 P) (BT.node (pre.o_10 P) (BT.node (pre.o_18 P) BT.nil BT.nil) (BT.node (pre.o_26 P) BT.nil BT.nil)) (BT.node (pre.o_14 P) (BT.node (pre.o_22 P) BT.nil BT.nil) (BT.node (pre.o_30 P) BT.nil BT.nil)))) (BT.node (pre.o_3 P) (BT.node (pre.o_5 P) (BT.node (pre.o_9 P) (BT.node (pre.o_17 P) (BT.node (pre.o_33 P) BT.nil BT.nil) BT.nil) (BT.node (pre.o_25 P) BT.nil BT.nil)) (BT.node (pre.o_13 P) (BT.node (pre.o_21 P) BT.nil BT.nil) (BT.node (pre.o_29 P) BT.nil BT.nil))) (BT.node (pre.o_7 P) (BT.node (pre.o_11 P) (BT.node (pre.o_19 P) BT.nil BT.nil) (BT.node (pre.o_27 P) BT.nil BT.nil)) (BT.node (pre.o_15 P) (BT.node (pre.o_23 P) BT.nil BT.nil) (BT.node (pre.o_31 P) BT.nil BT.nil)))))
noncomputable def pre.tree_336 (P : Params) : BT := (BT.node (pre.o_1 P) (BT.node (pre.o_2 P) (BT.node (pre.o_328 P) (BT.node (pre.o_8 P) (BT.node (pre.o_16 P) (BT.node (pre.o_32 P) (BT.node (pre.o_75 P) (BT.node (pre.o_146 P) BT.nil BT.nil) (BT.node (pre.o_210 P) BT.nil BT.nil)) (BT.node (pre.o_114 P) (BT.node (pre.o_178 P) BT.nil BT.nil) (BT.node (pre.o_242 P) BT.nil BT.nil))) (BT.node (pre.o_55 P) (BT.node (pre.o_95 P) (BT.node (pre.o_162 P) BT.nil BT.nil) (BT.node (pre.o_226 P) BT.nil BT.nil)) (BT.node (pre.o_130 P) (BT.node (pre.o_194 P) BT.nil BT.nil) BT.nil))) (BT.node (pre.o_24 P) (BT.node (pre.o_43 P) (BT.node (pre.o_87 P) (BT.node (pre.o_154 P) BT.nil BT.nil) (BT.node (pre.o_218 P) BT.nil BT.nil)) (BT.node (pre.o_122 P) (BT.node (pre.o_186 P) BT.nil BT.nil) BT.nil)) (BT.node (pre.o_69 P) (BT.node (pre.o_103 P) (BT.node (pre.o_170 P) BT.nil BT.nil) (BT.node (pre.o_234 P) BT.nil BT.nil)) (BT.node (pre.o_138 P) (BT.node (pre.o_202 P) BT.nil BT.nil) BT.nil)))) (BT.node (pre.o_12 P) (BT.node (pre.o_20 P) (BT.node (pre.o_39 P) (BT.node (pre.o_85 P) (BT.node (pre.o_150 P) BT.nil BT.nil) (BT.node (pre.o_214 P) BT.nil BT.nil)) (BT.node (pre.o_118 P) (BT.node (pre.o_182 P) BT.nil BT.nil) (BT.node (pre.o_333 P) BT.nil BT.nil))) (BT.node (pre.o_59 P) (BT.node (pre.o_99 P) (BT.node (pre.o_166 P) BT.nil BT.nil) (BT.node (pre.o_230 P) BT.nil BT.nil)) (BT.node (pre.o_134 P) (BT.node (pre.o_198 P) BT.nil BT.nil) BT.nil))) (BT.node (pre.o_28 P) (BT.node (pre.o_47 P) (BT.node (pre.o_91 P) (BT.node (pre.o_158 P) BT.nil BT.nil) (BT.node (pre.o_222 P) BT.nil BT.nil)) (BT.node (pre.o_126 P) (BT.node (pre.o_190 P) BT.nil BT.nil) BT.nil)) (BT.node (pre.o_71 P) (BT.node (pre.o_110 P) (BT.node (pre.o_174 P) BT.nil BT.nil) (BT.node (pre.o_238 P) BT.nil BT.nil)) (BT.node (pre.o_142 P) (BT.node (pre.o_206 P) BT.nil BT.nil) BT.nil))))) (BT.node (pre.o_6 P) (BT.node (pre.o_10 P) (BT.node (pre.o_18 P) (BT.node (pre.o_37 P) (BT.node (pre.o_77 P) (BT.node (pre.o_148 P) BT.nil BT.nil) (BT.node (pre.o_212 P) BT.nil BT.nil)) (BT.node (pre.o_116 P) (BT.node (pre.o_180 P) BT.nil BT.nil) (BT.node (pre.o_331 P) BT.nil BT.nil))) (BT.node (pre.o_57 P) (BT.node (pre.o_97 P) (BT.node (pre.o_164 P) BT.nil BT.nil) (BT.node (pre.o_228 P) BT.nil BT.nil)) (BT.node (pre.o_132 P) (BT.node (pre.o_196 P) BT.nil BT.nil) BT.nil))) (BT.node (pre.o_26 P) (BT.node (pre.o_45 P) (BT.node (pre.o_89 P) (BT.node (pre.o_156 P) BT.nil BT.nil) (BT.node (pre.o_220 P) BT.nil BT.nil)) (BT.node (pre.o_124 P) (BT.node (pre.o_188 P) BT.nil BT.nil) BT.nil)) (BT.node (pre.o_65 P) (BT.node (pre.o_108 P) (BT.node (pre.o_172 P) BT.nil BT.nil) (BT.node (pre.o_236 P) BT.nil BT.nil)) (BT.node (pre.o_140 P) (BT.node (pre.o_204 P) BT.nil BT.nil) BT.nil)))) (BT.node (pre.o_14 P) (BT.node (pre.o_22 P) (BT.node (pre.o_41 P) (BT.node (pre.o_81 P) (BT.node (pre.o_152 P) BT.nil BT.nil) (BT.node (pre.o_216 P) BT.nil BT.nil)) (BT.node (pre.o_120 P) (BT.node (pre.o_184 P) BT.nil BT.nil) (BT.node (pre.o_335 P) BT.nil BT.nil))) (BT.node (pre.o_61 P) (BT.node (pre.o_101 P) (BT.node (pre.o_168 P) BT.nil BT.nil) (BT.node (pre.o_232 P) BT.nil BT.nil)) (BT.node (pre.o_136 P) (BT.node (pre.o_200 P) BT.nil BT.nil) BT.nil))) (BT.node (pre.o_30 P) (BT.node (pre.o_49 P) (BT.node (pre.o_93 P) (BT.node (pre.o_160 P) BT.nil BT.nil) (BT.node (pre.o_224 P) BT.nil BT.nil)) (BT.node (pre.o_128 P) (BT.node (pre.o_192 P) BT.nil BT.nil) BT.nil)) (BT.node (pre.o_73 P) (BT.node (pre.o_112 P) (BT.node (pre.o_176 P) BT.nil BT.nil) (BT.node (pre.o_240 P) BT.nil BT.nil)) (BT.node (pre.o_144 P) (BT.node (pre.o_208 P) BT.nil BT.nil) BT.nil)))))) (BT.node (pre.o_34 P) (BT.node (pre.o_5 P) (BT.node (pre.o_9 P) (BT.node (pre.o_17 P) (BT.node (pre.o_33 P) (BT.node (pre.o_76 P) (BT.node (pre.o_147 P) BT.nil BT.nil) (BT.node (pre.o_211 P) BT.nil BT.nil)) (BT.node (pre.o_115 P) (BT.node (pre.o_179 P) BT.nil BT.nil) (BT.node (pre.o_330 P) BT.nil BT.nil))) (BT.node (pre.o_56 P) (BT.node (pre.o_96 P) (BT.node (pre.o_163 P) BT.nil BT.nil) (BT.node (pre.o_227 P) BT.nil BT.nil)) (BT.node (pre.o_131 P) (BT.node (pre.o_195 P) BT.nil BT.nil) BT.nil))) (BT.node (pre.o_25 P) (BT.node (pre.o_44 P) (BT.node (pre.o_88 P) (BT.node (pre.o_155 P) BT.nil BT.nil) (BT.node (pre.o_219 P) BT.nil BT.nil)) (BT.node (pre.o_123 P) (BT.node (pre.o_187 P) BT.nil BT.nil) BT.nil)) (BT.node (pre.o_64 P) (BT.node (pre.o_104 P) (BT.node (pre.o_171 P) BT.nil BT.nil) (BT.node (pre.o_235 P) BT.nil BT.nil)) (BT.node (pre.o_139 P) (BT.node (pre.o_203 P) BT.nil BT.nil) BT.nil)))) (BT.node (pre.o_13 P) (BT.node (pre.o_21 P) (BT.node (pre.o_40 P) (BT.node (pre.o_80 P) (BT.node (pre.o_151 P) BT.nil BT.nil) (BT.node (pre.o_215 P) BT.nil BT.nil)) (BT.node (pre.o_119 P) (BT.node (pre.o_183 P) BT.nil BT.nil) (BT.node (pre.o_334 P) BT.nil BT.nil))) (BT.node (pre.o_60 P) (BT.node (pre.o_100 P) (BT.node (pre.o_167 P) BT.nil BT.nil) (BT.node (pre.o_231 P) BT.nil BT.nil)) (BT.node (pre.o_135 P) (BT.node (pre.o_199 P) BT.nil BT.nil) BT.nil))) (BT.node (pre.o_29 P) (BT.node (pre.o_48 P) (BT.node (pre.o_92 P) (BT.node (pre.o_159 P) BT.nil BT.nil) (BT.node (pre.o_223 P) BT.nil BT.nil)) (BT.node (pre.o_127 P) (BT.node (pre.o_191 P) BT.nil BT.nil) BT.nil)) (BT.node (pre.o_72 P) (BT.node (pre.o_111 P) (BT.node (pre.o_175 P) BT.nil BT.nil) (BT.node (pre.o_239 P) BT.nil BT.nil)) (BT.node (pre.o_143 P) (BT.node (pre.o_207 P) BT.nil BT.nil) BT.nil))))) (BT.node (pre.o_7 P) (BT.node (pre.o_11 P) (BT.node (pre.o_19 P) (BT.node (pre.o_38 P) (BT.node (pre.o_78 P) (BT.node (pre.o_149 P) BT.nil BT.nil) (BT.node (pre.o_213 P) BT.nil BT.nil)) (BT.node (pre.o_117 P) (BT.node (pre.o_181 P) BT.nil BT.nil) (BT.node (pre.o_332 P) BT.nil BT.nil))) (BT.node (pre.o_58 P) (BT.node (pre.o_98 P) (BT.node (pre.o_165 P) BT.nil BT.nil) (BT.node (pre.o_229 P) BT.nil BT.nil)) (BT.node (pre.o_133 P) (BT.node (pre.o_197 P) BT.nil BT.nil) BT.nil))) (BT.node (pre.o_27 P) (BT.node (pre.o_53 P) (BT.node (pre.o_90 P) (BT.node (pre.o_157 P) BT.nil BT.nil) (BT.node (pre.o_221 P) BT.nil BT.nil)) (BT.node (pre.o_125 P) (BT.node (pre.o_189 P) BT.nil BT.nil) BT.nil)) (BT.node (pre.o_70 P) (BT.node (pre.o_109 P) (BT.node (pre.o_173 P) BT.nil BT.nil) (BT.node (pre.o_237 P) BT.nil BT.nil)) (BT.node (pre.o_141 P) (BT.node (pre.o_205 P) BT.nil BT.nil) BT.nil)))) (BT.node (pre.o_15 P) (BT.node (pre.o_23 P) (BT.node (pre.o_42 P) (BT.node (pre.o_86 P) (BT.node (pre.o_153 P) BT.nil BT.nil) (BT.node (pre.o_217 P) BT.nil BT.nil)) (BT.node (pre.o_121 P) (BT.node (pre.o_185 P) BT.nil BT.nil) (BT.node (pre.o_336 P) BT.nil BT.nil))) (BT.node (pre.o_62 P) (BT.node (pre.o_102 P) (BT.node (pre.o_169 P) BT.nil BT.nil) (BT.node (pre.o_233 P) BT.nil BT.nil)) (BT.node (pre.o_137 P) (BT.node (pre.o_201 P) BT.nil BT.nil) BT.nil))) (BT.node (pre.o_329 P) (BT.node (pre.o_54 P) (BT.node (pre.o_94 P) (BT.node (pre.o_161 P) BT.nil BT.nil) (BT.node (pre.o_225 P) BT.nil BT.nil)) (BT.node (pre.o_129 P) (BT.node (pre.o_193 P) BT.nil BT.nil) BT.nil)) (BT.node (pre.o_74 P) (BT.node (pre.o_113 P) (BT.node (pre.o_177 P) BT.nil BT.nil) (BT.node (pre.o_241 P) BT.nil BT.nil)) (BT.node (pre.o_145 P) (BT.node (pre.o_209 P) BT.nil BT.nil) BT.nil)))))))
end
end Mine
namespace Mine
section
open PySem PySem.W PySem.Calls PyProof.Rows

/-- a heap as a tree, its size, the next token, the dicts (bytes keys, true hashes) that are known good -/
structure TS where
  t : BT
  n : Nat
  k : Nat
  g : List Nat

def TS.abs (x : TS) (os : OsState) : Shared := ⟨absHeap x.t x.n {}, #[], {}, x.k, os⟩

def TS.get (x : TS) (a : Nat) : Option Obj := match Nat.blt a x.n with
  | true => match x.t.get a with
    | some o => alive o
    | none => none
  | false => none

theorem alive_some {o o' : Obj} (h : alive o = some o') : o' = o := by
  obtain ⟨c, d, dt, sl⟩ := o
  cases dt <;> simp [alive] at h <;> exact h.symm

theorem TS.get_tree {x : TS} {a : Nat} {o : Obj} (h : x.get a = some o) : a < x.n ∧ x.t.get a = some o ∧ alive o = some o := by
  unfold TS.get at h
  cases hb : Nat.blt a x.n with
  | false => rw [hb] at h; cases h
  | true =>
    rw [hb] at h
    cases hg : x.t.get a with
    | none => rw [hg] at h; cases h
    | some o' =>
      rw [hg] at h
      have e := alive_some h
      subst e
      exact ⟨Nat.le_of_ble_eq_true hb, rfl, h⟩

theorem TS.get_abs {x : TS} {a : Nat} {o : Obj} {os : OsState} (h : x.get a = some o) : (x.abs os).heap.get? a = some o := by
  obtain ⟨h1, h2, h3⟩ := TS.get_tree h
  show (absHeap x.t x.n {}).get? a = some o
  rw [abs_get h1 h2, h3]

theorem TS.get_of {x : TS} {a : Nat} {o : Obj} (h1 : a < x.n) (h2 : x.t.get a = some o) (h3 : alive o = some o) : x.get a = some o := by
  unfold TS.get
  rw [show Nat.blt a x.n = true from Nat.ble_eq_true_of_le h1, h2]
  exact h3

def isNewDict : Obj → Bool
  | ⟨.type c, none, .dict es _, sl⟩ => c == "dict" && es.size == 0 && sl.size == 0
  | _ => false

theorem isNewDict_is {o : Obj} (h : isNewDict o = true) : ∃ ep, o = ⟨.type "dict", none, .dict #[] ep, #[]⟩ := by
  unfold isNewDict at h
  split at h
  · rename_i c es ep sl
    simp only [Bool.and_eq_true, beq_iff_eq, Array.size_eq_zero_iff] at h
    obtain ⟨⟨rfl, rfl⟩, rfl⟩ := h
    exact ⟨ep, rfl⟩
  · cases h

def special : Code → Option (Bool × Nat × Array UInt8 × Tok × Value)
  | .call (.builtin id) ⟨[.ref d, .bytes b t, v], []⟩ =>
    if id == "dict.setdefault" then some (false, d, b, t, v) else if id == "dict.__setitem__" then some (true, d, b, t, v) else none
  | _ => none

/-- the evaluator's state: a heap, answers for loops that are taken as known, the log of what was so asked -/
structure ES where
  x : TS
  ans : List (Result × TS)
  log : List (Ctx × Pos × TS × Result × TS)

def evD (P : Params) (d : Nat) (b : Array UInt8) (t : Tok) (v : Value) (set : Bool) (s : TS) : Option (Result × TS) :=
  match s.g.any (fun a => Nat.beq a d) && !(Nat.beq d sysModules) with
  | false => none
  | true => match s.get d with
    | some ⟨_, _, .dict es _, _⟩ => match Nat.blt es.size 1000 with
      | false => none
      | true => match es.findIdx? fun e => isBytes b.toList e.key with
        | some i => match set with
          | true => none
          | false => match es[i]? with
            | some e => some (.ok (.ret e.val), ⟨s.t, s.n, s.k + 1, s.g⟩)
            | none => none
        | none => some (.ok (.ret (match set with | true => .none | false => v)),
            ⟨s.t.set d (Obj.mapDictKeys (·.push ⟨hashW P (.bytes b.toList), .bytes b t, v⟩)), s.n, s.k + 1, s.g⟩)
    | _ => none

def TS.upd (s : TS) (a : Nat) (f : Obj → Obj) : TS :=
  ⟨s.t.set a f, s.n, s.k, match s.g.any (fun b => Nat.beq b a) with | true => s.g.filter (fun b => !(Nat.beq b a)) | false => s.g⟩
def TS.push (s : TS) (o : Obj) : TS := ⟨s.t.ins s.n o, s.n + 1, s.k, match isNewDict o with | true => s.n :: s.g | false => s.g⟩
def TS.tick (s : TS) : TS := ⟨s.t, s.n, s.k + 1, s.g⟩

def evT {α : Type} (S : Setting) (rec : Ctx → Pos → ES → Option (Result × ES)) (Γ : Ctx) : Sem α → Pos → ES → Option (Except Value α × Pos × ES)
  | .pure a, p, s => some (.ok a, p, s)
  | .raise e, p, s => some (.error e, p, s)
  | .rule _ k, p, s => evT S rec Γ (k ()) p s
  | .at p' k, _, s => evT S rec Γ (k ()) p' s
  | .point _ k, p, s => evT S rec Γ (k ()) p s
  | .load a _ k, p, s => match s.x.get a with
    | some o => evT S rec Γ (k o) p s
    | none => none
  | .loadIfAlive a k, p, s => match s.x.get a with
    | some o => evT S rec Γ (k (some o)) p s
    | none => none
  | .update a _ f k, p, s => match s.x.get a with
    | some _ => evT S rec Γ (k ()) p ⟨s.x.upd a f, s.ans, s.log⟩
    | none => none
  | .alloc o k, p, s => match ((s.x.t.ins s.x.n o).get s.x.n).isSome with
    | true => evT S rec Γ (k s.x.n) p ⟨s.x.push o, s.ans, s.log⟩
    | false => none
  | .fresh k, p, s => evT S rec Γ (k s.x.k) p ⟨s.x.tick, s.ans, s.log⟩
  | .ask k, p, s => evT S rec Γ (k S) p s
  | .handled own k, p, s => evT S rec Γ (k (if own then Γ.own else Γ.handled)) p s
  | .stack k, p, s => evT S rec Γ (k ((Γ.code, p) :: Γ.below)) p s
  | .thread k, p, s => evT S rec Γ (k 0) p s
  | .call c h _ _ k, p, s => match rec (Γ.enter c h p) p s with
    | some (r, s') => evT S rec Γ (k r) p s'
    | none => none
  | _, _, _ => none

def isFor : Code → Bool
  | .forLoop .. => true
  | _ => false

def evC (prog : Program) (P : Params) : Nat → Ctx → Pos → ES → Option (Result × ES)
  | 0, _, _, _ => none
  | n + 1, Γ, p, s => match isFor Γ.code, s.ans with
    | true, (r, x') :: rest => some (r, ⟨x', rest, (Γ, p, s.x, r, x') :: s.log⟩)
    | _, _ => match special Γ.code with
      | some (set, d, b, t, v) => match evD P d b t v set s.x with
        | some (r, x') => some (r, ⟨x', s.ans, s.log⟩)
        | none => none
      | none => match evT ⟨prog, P⟩ (evC prog P n) Γ (denote treeTable Γ.code) p s with
        | some (.ok (.done f), _, s') => some (.ok f, s')
        | some (.ok (.again c), p', s') => match c.quiet with
          | true => evC prog P n (Γ.goto c) p' s'
          | false => none
        | some (.error e, _, s') => some (.error e, s')
        | none => none

/-- m turns of a code that ends each turn by asking for itself again -/
def evL (prog : Program) (P : Params) (n : Nat) : Nat → Ctx → Pos → ES → Option (Ctx × Pos × ES)
  | 0, Γ, p, s => some (Γ, p, s)
  | m + 1, Γ, p, s => match evT ⟨prog, P⟩ (evC prog P n) Γ (denote treeTable Γ.code) p s with
    | some (.ok (.again c), p', s') => match c.quiet with
      | true => evL prog P n m (Γ.goto c) p' s'
      | false => none
    | _ => none

end
end Mine
namespace Mine
section
open PySem PySem.W PySem.Calls PyProof.Rows

def Grows (s s' : ES) : Prop := ∃ l, s'.log = l ++ s.log
theorem Grows.refl (s : ES) : Grows s s := ⟨[], rfl⟩
theorem Grows.same {s s' : ES} (h : s'.log = s.log) : Grows s s' := ⟨[], by rw [h]; rfl⟩
theorem Grows.trans {a b c : ES} (h : Grows a b) (k : Grows b c) : Grows a c := by
  obtain ⟨l, h⟩ := h
  obtain ⟨m, k⟩ := k
  exact ⟨m ++ l, by rw [k, h, List.append_assoc]⟩

section
variable {S : Setting} {rec : Ctx → Pos → ES → Option (Result × ES)} {Γ : Ctx}

theorem evT_grows {α : Type} (hrec : ∀ Γ p s r s', rec Γ p s = some (r, s') → Grows s s') (t : Sem α) :
    ∀ p s r p' s', evT S rec Γ t p s = some (r, p', s') → Grows s s' := by
  induction t with
  | pure a => intro p s r p' s' h; simp only [evT, Option.some.injEq, Prod.mk.injEq] at h; obtain ⟨_, _, rfl⟩ := h; exact .refl _
  | raise e => intro p s r p' s' h; simp only [evT, Option.some.injEq, Prod.mk.injEq] at h; obtain ⟨_, _, rfl⟩ := h; exact .refl _
  | rule _ k ih => intro p s r p' s' h; exact ih () p s r p' s' h
  | «at» q k ih => intro p s r p' s' h; exact ih () q s r p' s' h
  | point _ k ih => intro p s r p' s' h; exact ih () p s r p' s' h
  | load a _ k ih =>
    intro p s r p' s' h
    simp only [evT] at h
    split at h
    · exact ih _ p s r p' s' h
    · cases h
  | loadIfAlive a k ih =>
    intro p s r p' s' h
    simp only [evT] at h
    split at h
    · exact ih _ p s r p' s' h
    · cases h
  | update a _ f k ih =>
    intro p s r p' s' h
    simp only [evT] at h
    split at h
    · have q := ih _ p _ r p' s' h
      exact q
    · cases h
  | alloc o k ih =>
    intro p s r p' s' h
    simp only [evT] at h
    split at h
    · have q := ih _ p _ r p' s' h
      exact q
    · cases h
  | fresh k ih =>
    intro p s r p' s' h
    have q := ih _ p _ r p' s' h
    exact q
  | ask k ih => intro p s r p' s' h; exact ih _ p _ r p' s' h
  | handled own k ih => intro p s r p' s' h; exact ih _ p _ r p' s' h
  | stack k ih => intro p s r p' s' h; exact ih _ p _ r p' s' h
  | thread k ih => intro p s r p' s' h; exact ih _ p _ r p' s' h
  | call c hd g l k ih =>
    intro p s r p' s' h
    simp only [evT] at h
    split at h
    · rename_i r₁ s₁ e
      exact (hrec _ _ _ _ _ e).trans (ih _ p _ r p' s' h)
    · cases h
  | _ => intro p s r p' s' h; simp only [evT] at h; cases h
end

theorem evC_grows {prog : Program} {P : Params} : ∀ n Γ p s r s', evC prog P n Γ p s = some (r, s') → Grows s s'
  | 0, _, _, _, _, _, h => by simp [evC] at h
  | n + 1, Γ, p, s, r, s', h => by
    unfold evC at h
    split at h
    · rename_i r₁ x' rest e1 e2
      obtain ⟨rfl, rfl⟩ : r₁ = r ∧ _ = s' := by simpa using h
      exact ⟨[_], rfl⟩
    · split at h
      · split at h
        · obtain ⟨_, rfl⟩ : _ ∧ _ = s' := by simpa using h
          exact .same rfl
        · cases h
      · split at h
        · rename_i e
          obtain ⟨_, rfl⟩ : _ ∧ _ = s' := by simpa using h
          exact evT_grows (evC_grows n) _ _ _ _ _ _ e
        · rename_i e
          split at h
          · exact (evT_grows (evC_grows n) _ _ _ _ _ _ e).trans (evC_grows n _ _ _ _ _ h)
          · cases h
        · rename_i e
          obtain ⟨_, rfl⟩ : _ ∧ _ = s' := by simpa using h
          exact evT_grows (evC_grows n) _ _ _ _ _ _ e
        · cases h

section
variable (prog : Program) (w : World) (os : OsState)

def Good (x : TS) : Prop := ∀ a ∈ x.g, ∃ es ep, x.get a = some ⟨.type "dict", none, .dict es ep, #[]⟩ ∧ KeysOf (bytesKind prog w) es

def LogOk (l : List (Ctx × Pos × TS × Result × TS)) : Prop :=
  ∀ e ∈ l, Returns (model prog w) e.1 e.2.1 (e.2.2.1.abs os) e.2.2.2.1 (e.2.2.2.2.abs os) ∧ Good prog w e.2.2.2.2
end

section
variable {prog : Program} {w : World} {os : OsState}

theorem LogOk.of_grows {s s' : ES} (h : LogOk prog w os s'.log) (g : Grows s s') : LogOk prog w os s.log := by
  obtain ⟨l, e⟩ := g
  intro x hx
  exact h x (by rw [e]; exact List.mem_append_right _ hx)

theorem upd_abs {x : TS} {a : Nat} {f : Obj → Obj} {o : Obj} (h : x.get a = some o) : (x.upd a f).abs os = { x.abs os with heap := (x.abs os).heap.update a f } := by
  obtain ⟨_, h2, _⟩ := TS.get_tree h
  show Shared.mk (absHeap (x.t.set a f) x.n {}) #[] {} x.k os = _
  rw [absHeap_set h2]
  rfl
theorem push_abs {x : TS} {o : Obj} (h : ((x.t.ins x.n o).get x.n).isSome = true) : (x.push o).abs os = { x.abs os with heap := (x.abs os).heap.push o } := by
  show Shared.mk (absHeap (x.t.ins x.n o) (x.n + 1) {}) #[] {} x.k os = _
  rw [absHeap_ins h]
  rfl
theorem size_abs {x : TS} : (x.abs os).heap.objs.size = x.n := absHeap_size _ _ _

theorem upd_get_ne {x : TS} {a b : Nat} {f : Obj → Obj} (hne : b ≠ a) : (x.upd a f).get b = x.get b := by
  unfold TS.get
  show (match Nat.blt b x.n with | true => (match (x.t.set a f).get b with | some o => alive o | none => none) | false => none) = _
  rw [BT.get_set, if_neg hne] <;> rfl
theorem push_get_of {x : TS} {o : Obj} {b : Nat} {ob : Obj} (h : ((x.t.ins x.n o).get x.n).isSome = true) (hb : x.get b = some ob) : (x.push o).get b = some ob := by
  obtain ⟨h1, h2, h3⟩ := TS.get_tree hb
  refine TS.get_of (Nat.lt_succ_of_lt h1) ?_ h3
  show (x.t.ins x.n o).get b = some ob
  rw [BT.get_ins o x.t x.n h, if_neg (Nat.ne_of_lt h1)]
  exact h2
theorem push_get_self {x : TS} {o : Obj} (h : ((x.t.ins x.n o).get x.n).isSome = true) (ha : alive o = some o) : (x.push o).get x.n = some o := by
  refine TS.get_of (Nat.lt_succ_self _) ?_ ha
  show (x.t.ins x.n o).get x.n = some o
  rw [BT.get_ins o x.t x.n h, if_pos rfl]

theorem Good.upd {x : TS} {a : Nat} {f : Obj → Obj} (h : Good prog w x) : Good prog w (x.upd a f) := by
  have key : ∀ b ∈ (x.upd a f).g, b ≠ a ∧ b ∈ x.g := by
    intro b hb
    show _ ∧ _
    have hb' : b ∈ (match x.g.any (fun b => Nat.beq b a) with | true => x.g.filter (fun b => !(Nat.beq b a)) | false => x.g) := hb
    split at hb'
    · obtain ⟨h1, h2⟩ := List.mem_filter.mp hb'
      refine ⟨?_, h1⟩
      rintro rfl
      simp [Nat.beq_refl] at h2
    · rename_i e
      refine ⟨?_, hb'⟩
      rintro rfl
      have := List.any_eq_false.mp e b hb'
      simp [Nat.beq_refl] at this
  intro b hb
  obtain ⟨h1, h2⟩ := key b hb
  obtain ⟨es, ep, h3, h4⟩ := h b h2
  exact ⟨es, ep, by rw [upd_get_ne h1]; exact h3, h4⟩
theorem Good.push {x : TS} {o : Obj} (h : Good prog w x) (hp : ((x.t.ins x.n o).get x.n).isSome = true) : Good prog w (x.push o) := by
  intro b hb
  have hb' : b ∈ (match isNewDict o with | true => x.n :: x.g | false => x.g) := hb
  have old : b ∈ x.g → ∃ es ep, (x.push o).get b = some ⟨.type "dict", none, .dict es ep, #[]⟩ ∧ KeysOf (bytesKind prog w) es := by
    intro hm
    obtain ⟨es, ep, h3, h4⟩ := h b hm
    exact ⟨es, ep, push_get_of hp h3, h4⟩
  split at hb'
  · rename_i e
    rcases List.mem_cons.mp hb' with rfl | hm
    · obtain ⟨ep, rfl⟩ := isNewDict_is e
      exact ⟨#[], ep, push_get_self hp rfl, fun e he => by simp at he⟩
    · exact old hm
  · exact old hb'
theorem Good.tick {x : TS} (h : Good prog w x) : Good prog w x.tick := h

theorem evT_sound {rec : Ctx → Pos → ES → Option (Result × ES)} {Γ : Ctx} {α : Type} (hg : ∀ Γ p s r s', rec Γ p s = some (r, s') → Grows s s')
    (hrec : ∀ Γ p s r s', rec Γ p s = some (r, s') → Good prog w s.x → LogOk prog w os s'.log → Returns (model prog w) Γ p (s.x.abs os) r (s'.x.abs os) ∧ Good prog w s'.x) (t : Sem α) :
    ∀ p s r p' s', evT ⟨prog, w.params⟩ rec Γ t p s = some (r, p', s') → Good prog w s.x → LogOk prog w os s'.log →
      Good prog w s'.x ∧ Sem.wp (model prog w) Γ t (fun a q s'' => r = .ok a ∧ q = p' ∧ s'' = s'.x.abs os) (fun e q s'' => r = .error e ∧ q = p' ∧ s'' = s'.x.abs os) p (s.x.abs os) := by
  induction t with
  | pure a => intro p s r p' s' h gd _; simp only [evT, Option.some.injEq, Prod.mk.injEq] at h; obtain ⟨rfl, rfl, rfl⟩ := h; exact ⟨gd, rfl, rfl, rfl⟩
  | raise e => intro p s r p' s' h gd _; simp only [evT, Option.some.injEq, Prod.mk.injEq] at h; obtain ⟨rfl, rfl, rfl⟩ := h; exact ⟨gd, rfl, rfl, rfl⟩
  | rule _ k ih => intro p s r p' s' h gd hl; rw [Sem.wp_rule]; exact ih () p s r p' s' h gd hl
  | «at» q k ih => intro p s r p' s' h gd hl; rw [Sem.wp_at]; exact ih () q s r p' s' h gd hl
  | point _ k ih => intro p s r p' s' h gd hl; rw [Sem.wp_point]; exact ih () p s r p' s' h gd hl
  | load a _ k ih =>
    intro p s r p' s' h gd hl
    simp only [evT] at h
    split at h
    · rename_i o e
      obtain ⟨g', q⟩ := ih _ p s r p' s' h gd hl
      exact ⟨g', by rw [Sem.wp_load]; exact ⟨o, TS.get_abs e, q⟩⟩
    · cases h
  | loadIfAlive a k ih =>
    intro p s r p' s' h gd hl
    simp only [evT] at h
    split at h
    · rename_i o e
      obtain ⟨g', q⟩ := ih _ p s r p' s' h gd hl
      refine ⟨g', ?_⟩
      rw [Sem.wp_loadIfAlive, TS.get_abs e]
      exact q
    · cases h
  | update a _ f k ih =>
    intro p s r p' s' h gd hl
    simp only [evT] at h
    split at h
    · rename_i o e
      obtain ⟨g', q⟩ := ih _ p _ r p' s' h (Good.upd gd) hl
      refine ⟨g', ?_⟩
      rw [Sem.wp_update, TS.get_abs e]
      refine ⟨rfl, ?_⟩
      rw [← upd_abs e]
      exact q
    · cases h
  | alloc o k ih =>
    intro p s r p' s' h gd hl
    simp only [evT] at h
    split at h
    · rename_i e
      obtain ⟨g', q⟩ := ih _ p _ r p' s' h (Good.push gd e) hl
      refine ⟨g', ?_⟩
      rw [Sem.wp_alloc, size_abs, ← push_abs e]
      exact q
    · cases h
  | fresh k ih =>
    intro p s r p' s' h gd hl
    obtain ⟨g', q⟩ := ih _ p _ r p' s' h (Good.tick gd) hl
    exact ⟨g', by rw [Sem.wp_fresh]; exact q⟩
  | ask k ih => intro p s r p' s' h gd hl; rw [Sem.wp_ask]; exact ih _ p _ r p' s' h gd hl
  | handled own k ih => intro p s r p' s' h gd hl; rw [Sem.wp_handled]; exact ih _ p _ r p' s' h gd hl
  | stack k ih => intro p s r p' s' h gd hl; rw [Sem.wp_stack]; exact ih _ p _ r p' s' h gd hl
  | thread k ih => intro p s r p' s' h gd hl; rw [Sem.wp_thread]; exact ih _ p _ r p' s' h gd hl
  | call c hd g l k ih =>
    intro p s r p' s' h gd hl
    simp only [evT] at h
    split at h
    · rename_i r₁ s₁ e
      have gr := evT_grows hg _ _ _ _ _ _ h
      obtain ⟨hr, g₁⟩ := hrec _ _ _ _ _ e gd (hl.of_grows gr)
      obtain ⟨g', q⟩ := ih _ p _ r p' s' h g₁ hl
      refine ⟨g', ?_⟩
      rw [Sem.wp_call]
      exact ⟨_, _, hr, q⟩
    · cases h
  | _ => intro p s r p' s' h; simp only [evT] at h; cases h
end
end
end Mine
namespace Mine
section
open PySem PySem.W PySem.Calls PyProof.Rows
section
variable {prog : Program} {w : World} {K : Type} [DecidableEq K] {knd : KeyKind prog w K} {A : Around} {E : Value → Shared → Prop} {s : Shared}

theorem sd_exact {d : Addr} {o : Obj} {es : Array DictEntry} {ep : Nat} {k : K} {key dflt : Value} {Q : Value → Shared → Prop} (hkey : knd.is k key = true)
    (ho : s.heap.get? d = some o) (hd : o.data = .dict es ep) (hk : KeysOf knd es) (hz : es.size ≤ sizeLine)
    (h1 : ∀ i e, (es.findIdx? fun e => knd.is k e.key) = some i → es[i]? = some e → Q e.val { s with toks := s.toks + 1 })
    (h2 : (es.findIdx? fun e => knd.is k e.key) = none → Q dflt { s with heap := s.heap.update d (Obj.mapDictKeys (·.push ⟨knd.hash k, key, dflt⟩)), toks := s.toks + 1 }) :
    wpAny (model prog w) A (dictSetDefault d key dflt) Q E s := by
  unfold dictSetDefault
  try with_reducible refine wpAny_holding ?_
  refine wpAny_bind (knd.pyHash hkey ?_)
  refine wpAny_bind (wpAny_dictFind_of (s := { s with toks := s.toks + 1 }) hkey ho hd hk ?_)
  cases hi : es.findIdx? fun e => knd.is k e.key with
  | some i =>
    refine wpAny_bind (wpAny_dictEntries (s := { s with toks := s.toks + 1 }) ho hd ?_)
    cases he : es[i]? with
    | none =>
      exfalso
      have hlt : i < es.size := (Array.findIdx?_eq_some_iff_findIdx_eq.mp hi).1
      rw [Array.getElem?_eq_getElem hlt] at he
      exact nomatch he
    | some e => exact wpAny_bind (wpAny_rule (wpAny_pure (h1 i e hi he)))
  | none =>
    exact wpAny_bind (wpAny_rule (wpAny_bind (wpAny_updateDictKeys (hz := hz) (s := { s with toks := s.toks + 1 }) ho hd (wpAny_pure (h2 hi)))))

theorem si_exact {d : Addr} {o : Obj} {es : Array DictEntry} {ep : Nat} {k : K} {key v : Value} {Q : Unit → Shared → Prop} (hkey : knd.is k key = true)
    (ho : s.heap.get? d = some o) (hd : o.data = .dict es ep) (hk : KeysOf knd es) (hz : es.size ≤ sizeLine)
    (hn : (es.findIdx? fun e => knd.is k e.key) = none) (h2 : Q () { s with heap := s.heap.update d (Obj.mapDictKeys (·.push ⟨knd.hash k, key, v⟩)), toks := s.toks + 1 }) :
    wpAny (model prog w) A (dictSet d key v) Q E s := by
  unfold dictSet
  try with_reducible refine wpAny_holding ?_
  refine wpAny_bind (knd.pyHash hkey ?_)
  unfold dictSetHashed
  try with_reducible refine wpAny_holding ?_
  refine wpAny_bind (wpAny_dictFind_of (s := { s with toks := s.toks + 1 }) hkey ho hd hk ?_)
  rw [hn]
  exact wpAny_bind (wpAny_rule (wpAny_updateDictKeys (hz := hz) (s := { s with toks := s.toks + 1 }) ho hd h2))
end

section
variable {prog : Program} {w : World} {os : OsState} {A : Around} {R : Result → Shared → Prop} {s : Shared} {d : Addr} {b : Array UInt8} {t : Tok} {v : Value} {es : Array DictEntry} {ep : Nat}

theorem isB (b : Array UInt8) (t : Tok) : (bytesKind prog w).is b.toList (.bytes b t) = true := by simp [bytesKind, isBytes]

theorem sd_code (ho : s.heap.get? d = some ⟨.type "dict", none, .dict es ep, #[]⟩) (hs : (d == sysModules) = false) (hk : KeysOf (bytesKind prog w) es) (hz : es.size ≤ sizeLine)
    (h1 : ∀ i e, (es.findIdx? fun e => isBytes b.toList e.key) = some i → es[i]? = some e → R (.ok (.ret e.val)) { s with toks := s.toks + 1 })
    (h2 : (es.findIdx? fun e => isBytes b.toList e.key) = none →
      R (.ok (.ret v)) { s with heap := s.heap.update d (Obj.mapDictKeys (·.push ⟨hashW w.params (.bytes b.toList), .bytes b t, v⟩)), toks := s.toks + 1 }) :
    codeAny (model prog w) A (.call (.builtin "dict.setdefault") ⟨[.ref d, .bytes b t, v], []⟩) R s := by
  have hT : s.TypeIs (.ref d) "dict" := ⟨_, ho, rfl⟩
  refine codeAny_call_builtin PySem.F.slot_dict_setdefault.plain PySem.F.entry_dict_setdefault (PySem.F.slot_dict_setdefault.check _ _ _ _ _ _ _ _ hT (PySem.F.args_dict_setdefault_3 _ _ _) ?_)
  unfold Builtin.«dict.setdefault»
  refine wpAny_bind ?_
  unfold Builtin.Dict.keyAndDefault
  refine wpAny_bind (wpAny_notOrdered_dict hT ?_)
  show wpAny _ _ (pure (d, Value.bytes b t, some v)) _ _ s
  refine wpAny_pure ?_
  show wpAny _ _ (if (d == sysModules) = true then _ else (dictSetDefault d (.bytes b t) v >>= _)) _ _ s
  rw [if_neg (by rw [hs]; exact Bool.false_ne_true)]
  exact wpAny_bind (sd_exact (knd := bytesKind prog w) (isB b t) ho rfl hk hz (fun i e x y => wpAny_pure (h1 i e x y)) (fun x => wpAny_pure (h2 x)))

theorem si_code (ho : s.heap.get? d = some ⟨.type "dict", none, .dict es ep, #[]⟩) (hk : KeysOf (bytesKind prog w) es) (hz : es.size ≤ sizeLine)
    (hn : (es.findIdx? fun e => isBytes b.toList e.key) = none)
    (h2 : R (.ok (.ret .none)) { s with heap := s.heap.update d (Obj.mapDictKeys (·.push ⟨hashW w.params (.bytes b.toList), .bytes b t, v⟩)), toks := s.toks + 1 }) :
    codeAny (model prog w) A (.call (.builtin "dict.__setitem__") ⟨[.ref d, .bytes b t, v], []⟩) R s := by
  have hT : s.TypeIs (.ref d) "dict" := ⟨_, ho, rfl⟩
  refine codeAny_call_builtin PySem.F.slot_dict_setitem.plain PySem.F.entry_dict_setitem (PySem.F.slot_dict_setitem.check _ _ _ _ _ _ _ _ hT (PySem.F.args_dict_setitem_3 _ _ _) ?_)
  show wpAny _ _ (Builtin.Dict.notOrdered "__setitem__" ⟨[.ref d, .bytes b t, v], []⟩ >>= _) _ _ s
  refine wpAny_bind (wpAny_notOrdered_dict hT ?_)
  show wpAny _ _ (dictSet d (.bytes b t) v >>= _) _ _ s
  exact wpAny_bind (si_exact (knd := bytesKind prog w) (isB b t) ho rfl hk hz hn (wpAny_pure h2))

/-- what is known of nothing but the code itself -/
def aroundOf (Γ : Ctx) : Around := { handled := Γ.handled, depth := frameCount Γ.below, frames := none, guards := none, units := unitsOf Γ.below }
theorem below_of (Γ : Ctx) : Γ.Below (aroundOf Γ) := ⟨rfl, Nat.le_refl _, fun _ h => (nomatch h), fun _ h => (nomatch h), Nat.le_refl _⟩
theorem returns_of {Γ : Ctx} {p : Pos} {r : Result} {s s' : Shared} (h : codeAny (model prog w) (aroundOf Γ) Γ.code (fun r' s'' => r' = r ∧ s'' = s') s) : Returns (model prog w) Γ p s r s' := by
  obtain ⟨r', s'', hr, rfl, rfl⟩ := h Γ p rfl (below_of Γ)
  exact hr

theorem special_is {c : Code} {x : Bool × Nat × Array UInt8 × Tok × Value} (h : special c = some x) :
    c = .call (.builtin (if x.1 then "dict.__setitem__" else "dict.setdefault")) ⟨[.ref x.2.1, .bytes x.2.2.1 x.2.2.2.1, x.2.2.2.2], []⟩ := by
  unfold special at h
  split at h
  · split at h
    · rename_i e
      cases h
      rw [beq_iff_eq.mp e]; rfl
    · split at h
      · rename_i e
        cases h
        rw [beq_iff_eq.mp e]; rfl
      · cases h
  · cases h

theorem evD_sound {x x' : TS} {set : Bool} {r : Result} {Γ : Ctx} {p : Pos} (hc : Γ.code = .call (.builtin (if set then "dict.__setitem__" else "dict.setdefault")) ⟨[.ref d, .bytes b t, v], []⟩)
    (h : evD w.params d b t v set x = some (r, x')) (gd : Good prog w x) : Returns (model prog w) Γ p (x.abs os) r (x'.abs os) ∧ Good prog w x' := by
  unfold evD at h
  split at h
  · cases h
  · rename_i e
    obtain ⟨e1, e2⟩ := Bool.and_eq_true_iff.mp e
    obtain ⟨a, ha, hb⟩ := List.any_eq_true.mp e1
    obtain rfl : a = d := Nat.eq_of_beq_eq_true hb
    obtain ⟨es, ep, hg, hk⟩ := gd a ha
    have hs : (a == sysModules) = false := by
      cases q : a == sysModules with
      | false => rfl
      | true => rw [beq_iff_eq.mp q, Nat.beq_refl] at e2; cases e2
    rw [hg] at h
    dsimp only at h
    split at h
    · cases h
    · rename_i hz
      have hz' : es.size ≤ sizeLine := Nat.le_trans (Nat.le_of_lt (Nat.le_of_ble_eq_true hz)) (by decide)
      have tree := (TS.get_tree hg)
      split at h
      · rename_i i hi
        split at h
        · cases h
        · split at h
          · rename_i en hen
            obtain ⟨rfl, rfl⟩ : _ = r ∧ _ = x' := by simpa using h
            refine ⟨returns_of ?_, gd⟩
            rw [hc]
            refine sd_code (TS.get_abs hg) hs hk hz' (fun j e' hj he' => ?_) (fun hn => ?_)
            · rw [hi] at hj; cases hj
              rw [hen] at he'; cases he'
              exact ⟨rfl, rfl⟩
            · rw [hi] at hn; cases hn
          · cases h
      · rename_i hi
        obtain ⟨rfl, rfl⟩ : _ = r ∧ _ = x' := by simpa using h
        have habs : ∀ f, Shared.mk (absHeap (x.t.set a f) x.n {}) #[] {} (x.k + 1) os = { (x.abs os) with heap := (x.abs os).heap.update a f, toks := (x.abs os).toks + 1 } := by
          intro f
          rw [absHeap_set tree.2.1]; rfl
        have gd' : ∀ v', Good prog w ⟨x.t.set a (Obj.mapDictKeys (·.push ⟨hashW w.params (.bytes b.toList), .bytes b t, v'⟩)), x.n, x.k + 1, x.g⟩ := by
          intro v' c hc'
          by_cases hca : c = a
          · subst hca
            refine ⟨es.push ⟨hashW w.params (.bytes b.toList), .bytes b t, v'⟩, ep + 1, TS.get_of tree.1 ?_ rfl, KeysOf.push (knd := bytesKind prog w) hk (isB b t) v'⟩
            show (x.t.set c _).get c = _
            rw [BT.get_set, if_pos rfl, tree.2.1]
            rfl
          · obtain ⟨es', ep', h3, h4⟩ := gd c hc'
            refine ⟨es', ep', ?_, h4⟩
            have t3 := TS.get_tree h3
            refine TS.get_of t3.1 ?_ t3.2.2
            show (x.t.set a _).get c = _
            rw [BT.get_set, if_neg hca]
            exact t3.2.1
        refine ⟨returns_of ?_, gd' v⟩
        rw [hc]
        cases set with
        | false =>
          refine sd_code (TS.get_abs hg) hs hk hz' (fun j e' hj _ => ?_) (fun _ => ⟨rfl, ?_⟩)
          · rw [hi] at hj; cases hj
          · exact (habs _).symm
        | true =>
          refine si_code (TS.get_abs hg) hk hz' hi ⟨rfl, ?_⟩
          exact (habs _).symm
    
theorem evC_sound : ∀ n Γ p s r s', evC prog w.params n Γ p s = some (r, s') → Good prog w s.x → LogOk prog w os s'.log → Returns (model prog w) Γ p (s.x.abs os) r (s'.x.abs os) ∧ Good prog w s'.x
  | 0, _, _, _, _, _, h => by simp [evC] at h
  | n + 1, Γ, p, s, r, s', h => by
    intro gd hl
    unfold evC at h
    split at h
    · rename_i r₁ x' rest e1 e2
      obtain ⟨rfl, rfl⟩ : r₁ = r ∧ _ = s' := by simpa using h
      exact hl _ (List.mem_cons_self)
    · split at h
      · rename_i set d b t v e
        have hc := special_is e
        split at h
        · rename_i r₁ x' e3
          obtain ⟨rfl, rfl⟩ : r₁ = r ∧ _ = s' := by simpa using h
          exact evD_sound hc e3 gd
        · cases h
      · have tree : ∀ R, (∀ (fin : Fin) (p' : Pos) (s'' : Shared), R fin p' s'' → Sem.finPost (model prog w) Γ (fun r' s''' => r' = r ∧ s''' = s'.x.abs os) fin p' s'') →
            ∀ Ex : Value → Pos → Shared → Prop, (∀ e p' s'', Ex e p' s'' → Except.error e = r ∧ s'' = s'.x.abs os) →
            Sem.wp (model prog w) Γ (denote treeTable Γ.code) R Ex p (s.x.abs os) → Returns (model prog w) Γ p (s.x.abs os) r (s'.x.abs os) := by
          intro R hR Ex hEx hw
          rw [← table_eq_tree] at hw
          have := Sem.wp_mono (model prog w) Γ _ hR hEx p _ hw
          obtain ⟨r', s'', hr, rfl, rfl⟩ := (Sem.wp_iff_runs (model prog w) Γ _ (fun r' s''' => r' = r ∧ s''' = s'.x.abs os) p _).mp this
          exact hr
        split at h
        · rename_i f q s₁ e
          obtain ⟨rfl, rfl⟩ : _ = r ∧ _ = s' := by simpa using h
          obtain ⟨g', hw⟩ := evT_sound (evC_grows n) (evC_sound n) _ _ _ _ _ _ e gd hl
          refine ⟨tree _ (fun fin p' s'' hq => ?_) _ (fun e p' s'' hq => ?_) hw, g'⟩
          · obtain ⟨h1, _, h3⟩ := hq
            cases h1
            exact ⟨rfl, h3⟩
          · cases hq.1
        · rename_i c q s₁ e
          split at h
          · rename_i hquiet
            have gr := evC_grows n _ _ _ _ _ h
            obtain ⟨g', hw⟩ := evT_sound (evC_grows n) (evC_sound n) _ _ _ _ _ _ e gd (hl.of_grows gr)
            obtain ⟨hr, g''⟩ := evC_sound n _ _ _ _ _ h g' hl
            refine ⟨tree _ (fun fin p' s'' hq => ?_) _ (fun e p' s'' hq => ?_) hw, g''⟩
            · obtain ⟨h1, h2, h3⟩ := hq
              cases h1
              subst h2 h3
              exact ⟨hquiet, _, _, hr, rfl, rfl⟩
            · cases hq.1
          · cases h
        · rename_i e' q s₁ e
          obtain ⟨rfl, rfl⟩ : _ = r ∧ _ = s' := by simpa using h
          obtain ⟨g', hw⟩ := evT_sound (evC_grows n) (evC_sound n) _ _ _ _ _ _ e gd hl
          refine ⟨tree _ (fun fin p' s'' hq => ?_) _ (fun e p' s'' hq => ?_) hw, g'⟩
          · cases hq.1
          · obtain ⟨h1, _, h3⟩ := hq
            cases h1
            exact ⟨rfl, h3⟩
        · cases h

theorem evL_grows {P : Params} {n : Nat} : ∀ m Γ p s Γ' p' s', evL prog P n m Γ p s = some (Γ', p', s') → Grows s s'
  | 0, _, _, _, _, _, _, h => by simp only [evL, Option.some.injEq, Prod.mk.injEq] at h; obtain ⟨_, _, rfl⟩ := h; exact .refl _
  | m + 1, Γ, p, s, Γ', p', s', h => by
    unfold evL at h
    split at h
    · rename_i e
      split at h
      · exact (evT_grows (evC_grows n) _ _ _ _ _ _ e).trans (evL_grows m _ _ _ _ _ _ h)
      · cases h
    · cases h
theorem evL_sound {n : Nat} : ∀ m Γ p s Γ' p' s', evL prog w.params n m Γ p s = some (Γ', p', s') → Good prog w s.x → LogOk prog w os s'.log →
    Good prog w s'.x ∧ ∀ r s'', Returns (model prog w) Γ' p' (s'.x.abs os) r s'' → Returns (model prog w) Γ p (s.x.abs os) r s''
  | 0, _, _, _, _, _, _, h => by
    simp only [evL, Option.some.injEq, Prod.mk.injEq] at h; obtain ⟨rfl, rfl, rfl⟩ := h
    exact fun g _ => ⟨g, fun _ _ x => x⟩
  | m + 1, Γ, p, s, Γ', p', s', h => by
    intro gd hl
    unfold evL at h
    split at h
    · rename_i c q s₁ e
      split at h
      · rename_i hquiet
        have gr := evL_grows m _ _ _ _ _ _ h
        obtain ⟨g₁, hw⟩ := evT_sound (evC_grows n) (evC_sound n) _ _ _ _ _ _ e gd (hl.of_grows gr)
        obtain ⟨g', k⟩ := evL_sound m _ _ _ _ _ _ h g₁ hl
        refine ⟨g', fun r s'' hr => ?_⟩
        have hr' := k r s'' hr
        rw [← table_eq_tree] at hw
        have := Sem.wp_mono (model prog w) Γ _ (post' := Sem.finPost (model prog w) Γ (fun r' s''' => r' = r ∧ s''' = s'')) (exc' := fun e _ s₃ => Except.error e = r ∧ s₃ = s'') (fun fin p₂ s₂ hq => by
          obtain ⟨h1, h2, h3⟩ := hq
          cases h1
          subst h2 h3
          exact ⟨hquiet, _, _, hr', rfl, rfl⟩) (fun e p₂ s₂ hq => by cases hq.1) p _ hw
        obtain ⟨r', s₄, hr₄, rfl, rfl⟩ := (Sem.wp_iff_runs (model prog w) Γ _ (fun r' s''' => r' = r ∧ s''' = s'') p _).mp this
        exact hr₄
      · cases h
    · cases h
end
end
end Mine
namespace Mine
section
open PySem PySem.W PySem.Calls PyProof.Rows
set_option maxRecDepth 100000
set_option maxHeartbeats 0
/-- two objects of the start-up that nothing asks for stay open -/
def wrap (X Y : Obj) (t : BT) : BT := (t.set 19 fun _ => X).set 28 fun _ => Y
noncomputable abbrev menv : Env := Mine.pre.env_1
def G0 : Ctx := ⟨.builtin "claim.caller" {}, none, none, [], none⟩
noncomputable def G1 : Ctx := G0.enter (.body B menv) none default
def e0 (t : BT) (n k : Nat) (g : List Nat) : ES := ⟨⟨t, n, k, g⟩, [], []⟩

def fenv : Env := envOf "_build_static_table_mapping" (fnScope (st 8)) 231 230 (.ref 229)
def flCode : Code := match ((fnBody (st 8))[1]? : Option Stmt) with
  | some (Stmt.For target _ body orelse _) => .forLoop target (.ref 234) body orelse fenv
  | _ => default

abbrev sk (P : Params) (x : String) (t : Tok) (v : Value) : DictEntry := ⟨PyData.keyHash P (Str.ofString x), .str (Str.ofString x) t, v⟩
abbrev tupO (vs : List Value) : Obj := { cls := .type "tuple", data := .seq ⟨vs⟩ 0 }
abbrev endO (a : Nat) : Obj := { cls := .type "StopIteration", data := .fields ⟨[.ref a, .none, .none, .none, .bool false, .none]⟩ }
abbrev titO (v : Value) (i : Int) : Obj := { cls := .type "tuple_iterator", data := .fields ⟨[v, .int i 0]⟩ }
abbrev dictO (es : List DictEntry) (n : Nat) : Obj := { cls := .type "dict", data := .dict ⟨es⟩ n }

/-- the state ahead of the loop -/
def loop0 (P : Params) (t : BT) : TS :=
  ⟨(((t.ins 231 { cls := .type "frame", data := .dict ⟨[sk P "static_table_mapping" 600 (.ref 232)]⟩ 1 }).ins 232 (dictO [] 0)).ins 233 (titO (.ref 157) 0)).ins 234
    { cls := .type "enumerate", data := .fields ⟨[.none, .bool false, .ref 233, .int 1 0, .none, .none]⟩ }, 235, 603, [232]⟩

/-- one turn -/
def turn (P : Params) (i : Nat) (s : TS) : TS := match s.t.get (96 + i) with
  | some ⟨_, _, .seq ⟨[.bytes a ta, .bytes b tb]⟩ _, _⟩ => match s.t.get 232 with
    | some ⟨_, _, .dict es ep, _⟩ =>
      let n := 235 + 9 * i
      let ix : Value := .int (Int.ofNat (i + 1)) (603 + 8 * i)
      let t0 := (((((((s.t.ins n (tupO [ix, .ref (96 + i)])).ins (n + 1) (titO .none 2)).ins (n + 2) (tupO [])).ins (n + 3) (endO (n + 2))).ins (n + 4) (titO .none 2)).ins (n + 5) (tupO [])).ins (n + 6) (endO (n + 5)))
      let fin (t : BT) (r : Nat) : TS :=
        ⟨(((t.set 231 fun _ => { cls := .type "frame", data := .dict ⟨[sk P "static_table_mapping" 600 (.ref 232), sk P "index" 604 ix, sk P "name" 605 (.bytes a ta), sk P "value" 606 (.bytes b tb), sk P "header_name_search_result" 608 (.ref r)]⟩ 5 }).set
          233 fun _ => titO (.ref 157) (Int.ofNat (i + 1))).set 234 fun _ => { cls := .type "enumerate", data := .fields ⟨[.none, .bool false, .ref 233, .int (Int.ofNat (i + 2)) 0, .none, .ref (96 + i)]⟩ }), n + 9, 611 + 8 * i, (n + 7) :: s.g⟩
      match es.findIdx? fun e => isBytes a.toList e.key with
      | none => fin (((t0.ins (n + 7) (dictO [⟨hashW P (.bytes b.toList), .bytes b tb, ix⟩] 1)).ins (n + 8) (tupO [ix, .ref (n + 7)])).set 232 fun _ => { cls := .type "dict", data := .dict (es.push ⟨hashW P (.bytes a.toList), .bytes a ta, .ref (n + 8)⟩) (ep + 1) }) (n + 8)
      | some j => match es[j]? with
        | some ⟨_, _, .ref r⟩ => fin (((t0.ins (n + 7) (dictO [] 0)).ins (n + 8) (tupO [ix, .ref (n + 7)])).set (r - 1) (Obj.mapDictKeys (·.push ⟨hashW P (.bytes b.toList), .bytes b tb, ix⟩))) r
        | _ => s
    | _ => s
  | _ => s
/-- the turns i, i + 1 .. up to i + m -/
def turns (P : Params) (i : Nat) : Nat → TS → TS
  | 0, s => s
  | m + 1, s => turns P (i + 1) m (turn P i s)
noncomputable def SL (P : Params) (X Y : Obj) (i : Nat) : TS := turns P 0 i (loop0 P (wrap X Y (Mine.pre.tree_336 P)))
abbrev PF (w : World) (b : Bool) : Params := (w.withFollow "special-get-raises" b).params
def pS : Pos := ⟨91, 32, 91, 70⟩
def pL : Pos := ⟨93, 8, 93, 43⟩
end
end Mine
namespace Mine
section
open PySem PySem.W PySem.Calls PyProof.Rows
set_option maxRecDepth 100000
set_option maxHeartbeats 0
/-- the state behind the loop -/
noncomputable def Send (P : Params) (X Y : Obj) : TS :=
  let s := SL P X Y 61
  ⟨((s.t.set 233 fun _ => titO .none 61).ins 784 (tupO [])).ins 785 (endO 784), 786, 1091, s.g⟩
/-- the state behind statement 9 -/
noncomputable def S9 (P : Params) (X Y : Obj) : TS :=
  let s := Send P X Y
  ⟨s.t.set 218 (Obj.mapDictKeys (·.push (sk P "STATIC_TABLE_MAPPING" 1092 (.ref 232)))), 786, 1093, s.g⟩
noncomputable def GF : Ctx := ((G1.enter (.call (.ref 230) ⟨[], []⟩) none ⟨95, 35, 95, 64⟩).goto (.func (fnBody (st 8)) fenv)).enter flCode none pS

section
variable (P : Params) (X Y : Obj)
theorem pre_is : evT ⟨pw, P⟩ (evC pw P 60) G0 (do let code ← moduleCode pw.main; let fr ← newBodyFrame code mainNs mainNs; pure (code, fr)) default (e0 (wrap X Y (Mine.pre.tree_33 P)) 29 273 []) =
    some (.ok (.ref 31, 32), default, e0 (wrap X Y (Mine.pre.tree_33 P)) 33 279 []) := by kernel_rfl
theorem block_is : evT ⟨pw, P⟩ (evC pw P 60) G1 (blockStart B menv) default (e0 (wrap X Y (Mine.pre.tree_33 P)) 33 279 []) = some (.ok (), default, e0 (wrap X Y (Mine.pre.tree_33 P)) 33 279 []) := by kernel_rfl
theorem first_is : evT ⟨pw, P⟩ (evC pw P 60) G1 (execs (B.take 9) menv) default (e0 (wrap X Y (Mine.pre.tree_33 P)) 33 279 []) =
    some (.ok .next, ⟨89, 0, 94, 31⟩, e0 (wrap X Y (Mine.pre.tree_336 P)) 231 600 []) := by kernel_rfl
end
section
variable (w : World) (X Y : Obj) (own : Option Value) (below : List (Code × Pos)) (past : Option Value)
theorem loop_false_0 : evL pw (PF w false) 30 15 ⟨flCode, none, own, below, past⟩ pS ⟨SL (PF w false) X Y 0, [], []⟩ = some (⟨flCode, none, own, below, past⟩, pL, ⟨SL (PF w false) X Y 15, [], []⟩) := by kernel_rfl
theorem loop_false_15 : evL pw (PF w false) 30 15 ⟨flCode, none, own, below, past⟩ pL ⟨SL (PF w false) X Y 15, [], []⟩ = some (⟨flCode, none, own, below, past⟩, pL, ⟨SL (PF w false) X Y 30, [], []⟩) := by kernel_rfl
theorem loop_false_30 : evL pw (PF w false) 30 15 ⟨flCode, none, own, below, past⟩ pL ⟨SL (PF w false) X Y 30, [], []⟩ = some (⟨flCode, none, own, below, past⟩, pL, ⟨SL (PF w false) X Y 45, [], []⟩) := by kernel_rfl
theorem loop_false_45 : evL pw (PF w false) 30 16 ⟨flCode, none, own, below, past⟩ pL ⟨SL (PF w false) X Y 45, [], []⟩ = some (⟨flCode, none, own, below, past⟩, pL, ⟨SL (PF w false) X Y 61, [], []⟩) := by kernel_rfl
theorem last_false : evC pw (PF w false) 30 ⟨flCode, none, own, below, past⟩ pL ⟨SL (PF w false) X Y 61, [], []⟩ = some (.ok .next, ⟨Send (PF w false) X Y, [], []⟩) := by kernel_rfl
theorem nine_false : evT ⟨pw, PF w false⟩ (evC pw (PF w false) 60) G1 (execs [st 9] menv) ⟨89, 0, 94, 31⟩ ⟨⟨wrap X Y (Mine.pre.tree_336 (PF w false)), 231, 600, []⟩, [(.ok .next, Send (PF w false) X Y)], []⟩ =
    some (.ok .next, ⟨95, 0, 95, 32⟩, ⟨S9 (PF w false) X Y, [], [(GF, pS, SL (PF w false) X Y 0, .ok .next, Send (PF w false) X Y)]⟩) := by kernel_rfl
theorem loop_true_0 : evL pw (PF w true) 30 15 ⟨flCode, none, own, below, past⟩ pS ⟨SL (PF w true) X Y 0, [], []⟩ = some (⟨flCode, none, own, below, past⟩, pL, ⟨SL (PF w true) X Y 15, [], []⟩) := by kernel_rfl
theorem loop_true_15 : evL pw (PF w true) 30 15 ⟨flCode, none, own, below, past⟩ pL ⟨SL (PF w true) X Y 15, [], []⟩ = some (⟨flCode, none, own, below, past⟩, pL, ⟨SL (PF w true) X Y 30, [], []⟩) := by kernel_rfl
theorem loop_true_30 : evL pw (PF w true) 30 15 ⟨flCode, none, own, below, past⟩ pL ⟨SL (PF w true) X Y 30, [], []⟩ = some (⟨flCode, none, own, below, past⟩, pL, ⟨SL (PF w true) X Y 45, [], []⟩) := by kernel_rfl
theorem loop_true_45 : evL pw (PF w true) 30 16 ⟨flCode, none, own, below, past⟩ pL ⟨SL (PF w true) X Y 45, [], []⟩ = some (⟨flCode, none, own, below, past⟩, pL, ⟨SL (PF w true) X Y 61, [], []⟩) := by kernel_rfl
theorem last_true : evC pw (PF w true) 30 ⟨flCode, none, own, below, past⟩ pL ⟨SL (PF w true) X Y 61, [], []⟩ = some (.ok .next, ⟨Send (PF w true) X Y, [], []⟩) := by kernel_rfl
theorem nine_true : evT ⟨pw, PF w true⟩ (evC pw (PF w true) 60) G1 (execs [st 9] menv) ⟨89, 0, 94, 31⟩ ⟨⟨wrap X Y (Mine.pre.tree_336 (PF w true)), 231, 600, []⟩, [(.ok .next, Send (PF w true) X Y)], []⟩ =
    some (.ok .next, ⟨95, 0, 95, 32⟩, ⟨S9 (PF w true) X Y, [], [(GF, pS, SL (PF w true) X Y 0, .ok .next, Send (PF w true) X Y)]⟩) := by kernel_rfl
end
end
end Mine
namespace Mine
section
open PySem PySem.W PySem.Calls PyProof.Rows
set_option maxRecDepth 100000
set_option maxHeartbeats 0
noncomputable def run13 (P : Params) (X Y : Obj) : Option (Except Value Flow × Pos × ES) := evT ⟨pw, P⟩ (evC pw P 60) G1 (execs (B.drop 10) menv) ⟨95, 0, 95, 32⟩ ⟨S9 P X Y, [], []⟩
noncomputable def S13 (P : Params) (X Y : Obj) : TS := match run13 P X Y with
  | some (_, _, s) => s.x
  | none => ⟨.nil, 0, 0, []⟩
theorem rest_is (P : Params) (X Y : Obj) : evT ⟨pw, P⟩ (evC pw P 60) G1 (execs (B.drop 10) menv) ⟨95, 0, 95, 32⟩ ⟨S9 P X Y, [], []⟩ = some (.ok .next, ⟨109, 0, 140, 30⟩, ⟨S13 P X Y, [], []⟩) := by kernel_rfl
theorem size_is (P : Params) (X Y : Obj) : ((S13 P X Y).n, (S13 P X Y).k) = (803, 1115) := by kernel_rfl
abbrev lawFn (nm : String) (i : Nat) (c : Nat) : Obj := { cls := .type "function", data := .func { name := Str.ofString nm, qualname := Str.ofString nm, params := fnParams (st i), body := .stmts (fnBody (st i)), scope := fnScope (st i), globals := 3, closure := [], defaults := .none, kwdefaults := .none, doc := .none, pyModule := .str (Str.ofString "law_ds0003_01") 1093, annotations := none, code := .ref c, closureTuple := .none, builtins := 0 } }
theorem fns_are (P : Params) (X Y : Obj) : ((S13 P X Y).get 792, (S13 P X Y).get 797, (S13 P X Y).get 802) = (some (lawFn "_law_pair" 11 791), some (lawFn "_law_found" 12 796), some (lawFn "law" 13 801)) := by kernel_rfl
end
end Mine
namespace Mine
section
open PySem PySem.W PySem.Calls PyProof.Rows

section
variable {M : Model} {Γ : Ctx} {env : Env}
theorem wp_execs_append (l r : List Stmt) (Q : Flow → Pos → Shared → Prop) (E : Value → Pos → Shared → Prop) : ∀ p s,
    Sem.wp M Γ (execs l env) (fun f p s => match f with | .next => Sem.wp M Γ (execs r env) Q E p s | f => Q f p s) E p s → Sem.wp M Γ (execs (l ++ r) env) Q E p s := by
  induction l with
  | nil => intro p s h; exact h
  | cons st l ih =>
    intro p s h
    rw [List.cons_append, execs_cons, Sem.wp_bind']
    rw [execs_cons, Sem.wp_bind'] at h
    refine Sem.wp_mono M Γ _ (fun f p' s' hf => ?_) (fun _ _ _ h => h) p s h
    cases f with
    | next => exact ih p' s' hf
    | brk => exact hf
    | cont => exact hf
    | ret v => exact hf
end

section
variable {den : Code → Sem Fin} {p : Program} {w : World}
theorem step_done {s s'' : Shared} {t : Thread} {f : Flow} (h : step den p w s t = .halt (.done f) s'') : through t = true ∧ s'' = s := by
  obtain ⟨heap, gens, drawn, toks, os⟩ := s
  obtain ⟨cur, code, pos, stack⟩ := t
  cases cur with
  | pure fin =>
    cases fin with
    | done g =>
      cases stack with
      | nil =>
        simp only [step, finish] at h
        split at h
        · cases h
        · cases h; exact ⟨rfl, rfl⟩
      | cons fr r => cases fr <;> (simp only [step] at h; cases h)
    | again c =>
      cases stack with
      | nil => simp only [step] at h; (repeat' split at h) <;> cases h
      | cons fr r => cases fr <;> first | (rw [PySem.W.step_again] at h; cases h) | (rw [PySem.W.step_again_gen] at h; cases h)
  | raise e =>
    cases stack with
    | nil => simp only [step, finish] at h; split at h <;> cases h
    | cons fr r => cases fr <;> (simp only [step] at h; cases h)
  | _ => simp only [step] at h <;> (repeat' split at h) <;> cases h

theorem runN_last : ∀ (n : Nat) (s : Shared) (t : Thread) (f : Flow) (s'' : Shared), runN den p w n s t = .halted (.done f) s'' → ∃ k t₁, runN den p w k s t = .running s'' t₁ ∧ through t₁ = true
  | 0, _, _, _, _, h => by cases h
  | n + 1, s, t, f, s'', h => by
    unfold runN at h
    cases hs : step den p w s t with
    | go s₁ t₁ =>
      rw [hs] at h
      obtain ⟨k, t₂, hk, ht⟩ := runN_last n s₁ t₁ f s'' h
      exact ⟨k + 1, t₂, by unfold runN; rw [hs]; exact hk, ht⟩
    | halt o s₁ =>
      rw [hs] at h
      cases h
      obtain ⟨h1, rfl⟩ := step_done hs
      exact ⟨0, t, rfl, h1⟩
end

theorem forget_nil {s s' : Shared} (h : s.forget = s'.forget) (hg : s'.gens = #[]) : s = s' := by
  obtain ⟨h1, g1, d1, k1, o1⟩ := s
  obtain ⟨h2, g2, d2, k2, o2⟩ := s'
  simp only [Shared.forget, Shared.mk.injEq] at h
  obtain ⟨rfl, hg', rfl, rfl, rfl⟩ := h
  simp only at hg
  subst hg
  have : g1 = #[] := by
    have := congrArg Array.size hg'
    simp at this
    exact this
  subst this
  rfl

theorem ran_of_runs {p : Program} {w : World} {s s₁ : Shared} {t : Sem Fin} {f : Flow} (hz : s.asleep) (hg : s₁.gens = #[])
    (h : Runs (model p w) ⟨.builtin "claim.caller" {}, none, none, [], none⟩ default t [] s (.ret (.ok f)) s₁) :
    (∃ n t₁, schedN (denote table) p w n (.single s ⟨t, .builtin "claim.caller" {}, default, []⟩) = .running (.single s₁ t₁) ∧ through t₁ = true) ∧ s₁.heap.life = s.heap.life := by
  have hl : leftWithCleanup s₁.gens = false := by rw [hg]; simp [leftWithCleanup]
  obtain ⟨n, hn⟩ := (halts_iff (r := .ok f)).mpr ⟨h, hl⟩
  obtain ⟨s'', hr, hf, hc⟩ := runNI_real (denote table) p w (o := outcomeOf (.ok f)) hn (outcomeOf_ends _)
  obtain rfl := forget_nil hf hg
  have hne : ∀ k s₂, runN (denote table) p w k s ⟨t, .builtin "claim.caller" {}, default, []⟩ ≠ .halted (.unsupported "lifetime:generator-with-cleanup-left-suspended") s₂ := by
    intro k s₂ hk
    have a := runN_mono (denote table) p w n k _ _ _ _ hr
    have b := runN_mono (denote table) p w k n _ _ _ s₂ hk
    rw [Nat.add_comm, b] at a
    injection a with a1 _
    exact absurd a1 (by simp [outcomeOf])
  obtain ⟨k, t₁, hk, ht⟩ := runN_last n _ _ f _ hr
  refine ⟨⟨k, t₁, ?_, ht⟩, runN_life _ _ _ hr⟩
  rw [schedN_eq_runN (denote table) p w _ _ hz ⟨hc, hne⟩ k, hk]
  rfl
end
end Mine
namespace Mine
section
open PySem PySem.W PySem.Calls PyProof.Rows
set_option maxRecDepth 100000
set_option maxHeartbeats 400000

theorem pf_self (w : World) : ∃ b, PF w b = w.params := ⟨w.params.followText "special-get-raises", by unfold PF; rw [World.withFollow_self]⟩

section
variable {w : World} {os : OsState} (X Y : Obj)

theorem good_nil {t : BT} {n k : Nat} : Good pw w ⟨t, n, k, []⟩ := fun _ h => (nomatch h)
theorem log_nil : LogOk pw w os [] := fun _ h => (nomatch h)

theorem loop0_good : Good pw w (SL w.params X Y 0) := by
  intro a ha
  have ha' : a ∈ [232] := ha
  rw [List.mem_singleton.mp ha']
  exact ⟨#[], 0, rfl, fun e he => by simp at he⟩

theorem loop_runs {w : World} {os : OsState} (own : Option Value) (below : List (Code × Pos)) (past : Option Value) :
    Returns (model pw w) ⟨flCode, none, own, below, past⟩ pS ((SL w.params X Y 0).abs os) (.ok .next) ((Send w.params X Y).abs os) ∧ Good pw w (Send w.params X Y) := by
  have key : ∀ (i₁ i₂ i₃ i₄ : Nat) (P : Params) (hP : P = w.params)
      (e1 : evL pw P 30 i₁ ⟨flCode, none, own, below, past⟩ pS ⟨SL P X Y 0, [], []⟩ = some (⟨flCode, none, own, below, past⟩, pL, ⟨SL P X Y 15, [], []⟩))
      (e2 : evL pw P 30 i₂ ⟨flCode, none, own, below, past⟩ pL ⟨SL P X Y 15, [], []⟩ = some (⟨flCode, none, own, below, past⟩, pL, ⟨SL P X Y 30, [], []⟩))
      (e3 : evL pw P 30 i₃ ⟨flCode, none, own, below, past⟩ pL ⟨SL P X Y 30, [], []⟩ = some (⟨flCode, none, own, below, past⟩, pL, ⟨SL P X Y 45, [], []⟩))
      (e4 : evL pw P 30 i₄ ⟨flCode, none, own, below, past⟩ pL ⟨SL P X Y 45, [], []⟩ = some (⟨flCode, none, own, below, past⟩, pL, ⟨SL P X Y 61, [], []⟩))
      (e5 : evC pw P 30 ⟨flCode, none, own, below, past⟩ pL ⟨SL P X Y 61, [], []⟩ = some (.ok .next, ⟨Send P X Y, [], []⟩)),
      Returns (model pw w) ⟨flCode, none, own, below, past⟩ pS ((SL w.params X Y 0).abs os) (.ok .next) ((Send w.params X Y).abs os) ∧ Good pw w (Send w.params X Y) := by
    intro i₁ i₂ i₃ i₄ P hP e1 e2 e3 e4 e5
    subst hP
    obtain ⟨g1, k1⟩ := evL_sound (os := os) _ _ _ _ _ _ _ e1 (loop0_good X Y) log_nil
    obtain ⟨g2, k2⟩ := evL_sound (os := os) _ _ _ _ _ _ _ e2 g1 log_nil
    obtain ⟨g3, k3⟩ := evL_sound (os := os) _ _ _ _ _ _ _ e3 g2 log_nil
    obtain ⟨g4, k4⟩ := evL_sound (os := os) _ _ _ _ _ _ _ e4 g3 log_nil
    obtain ⟨k5, g5⟩ := evC_sound (os := os) _ _ _ _ _ _ e5 g4 log_nil
    exact ⟨k1 _ _ (k2 _ _ (k3 _ _ (k4 _ _ k5))), g5⟩
  obtain ⟨b, hb⟩ := pf_self w
  cases b with
  | false => exact key _ _ _ _ _ hb (loop_false_0 w X Y own below past) (loop_false_15 w X Y own below past) (loop_false_30 w X Y own below past) (loop_false_45 w X Y own below past) (last_false w X Y own below past)
  | true => exact key _ _ _ _ _ hb (loop_true_0 w X Y own below past) (loop_true_15 w X Y own below past) (loop_true_30 w X Y own below past) (loop_true_45 w X Y own below past) (last_true w X Y own below past)

end

section
variable {w : World} {os : OsState}
/-- what an evaluation that goes on says -/
theorem wp_of_ev {α : Type} {Γ : Ctx} {t : Sem α} {n : Nat} {p p' : Pos} {x : ES} {x' : ES} {a : α} (e : evT ⟨pw, w.params⟩ (evC pw w.params n) Γ t p x = some (.ok a, p', x')) (g : Good pw w x.x) (l : LogOk pw w os x'.log) :
    Sem.wp (model pw w) Γ t (fun f q s => f = a ∧ q = p' ∧ s = x'.x.abs os) (fun _ _ _ => False) p (x.x.abs os) ∧ Good pw w x'.x := by
  obtain ⟨g', h⟩ := evT_sound (os := os) (evC_grows n) (evC_sound n) _ _ _ _ _ _ e g l
  refine ⟨Sem.wp_mono _ _ _ (fun f q s hq => ?_) (fun e q s hq => ?_) _ _ h, g'⟩
  · obtain ⟨h1, h2, h3⟩ := hq
    cases h1
    exact ⟨rfl, h2, h3⟩
  · cases hq.1

theorem body_gen {L1 L2 L3 : List Stmt} {env : Env} {Γ : Ctx} {a b c d : Shared} {p0 p1 p2 p3 : Pos}
    (h1 : Sem.wp (model pw w) Γ (execs L1 env) (fun f q s => f = .next ∧ q = p1 ∧ s = b) (fun _ _ _ => False) p0 a)
    (h2 : Sem.wp (model pw w) Γ (execs L2 env) (fun f q s => f = .next ∧ q = p2 ∧ s = c) (fun _ _ _ => False) p1 b)
    (h3 : Sem.wp (model pw w) Γ (execs L3 env) (fun f q s => f = .next ∧ q = p3 ∧ s = d) (fun _ _ _ => False) p2 c) :
    Sem.wp (model pw w) Γ (execs (L1 ++ (L2 ++ L3)) env) (fun f _ s => f = .next ∧ s = d) (fun _ _ _ => False) p0 a := by
  apply wp_execs_append
  refine Sem.wp_mono _ _ _ (fun f q s hq => ?_) (fun e q s hq => hq) _ _ h1
  obtain ⟨rfl, rfl, rfl⟩ := hq
  dsimp only
  apply wp_execs_append
  refine Sem.wp_mono _ _ _ (fun f q s hq => ?_) (fun e q s hq => hq) _ _ h2
  obtain ⟨rfl, rfl, rfl⟩ := hq
  dsimp only
  refine Sem.wp_mono _ _ _ (fun f q s hq => ?_) (fun e q s hq => hq) _ _ h3
  exact ⟨hq.1, hq.2.2⟩

theorem body_ret {b : List Stmt} {env : Env} {Γ : Ctx} {s s' : Shared} {p p₁ : Pos} (hc : Γ.code = .body b env)
    (hb : Sem.wp (model pw w) Γ (blockStart b env) (fun f q s₁ => f = () ∧ q = p₁ ∧ s₁ = s) (fun _ _ _ => False) p s)
    (h : Sem.wp (model pw w) Γ (execs b env) (fun f _ s₁ => f = .next ∧ s₁ = s') (fun _ _ _ => False) p₁ s) : Returns (model pw w) Γ p s (.ok .next) s' := by
  have k : Sem.wp (model pw w) Γ ((model pw w).den Γ.code) (Sem.finPost (model pw w) Γ fun r s₁ => r = .ok .next ∧ s₁ = s') (fun e _ s₁ => Except.error e = (.ok .next : Result) ∧ s₁ = s') p s := by
    rw [hc]
    show Sem.wp _ _ (blockStart b env >>= fun _ => (execs b env).onRaise (PySem.leaving env) >>= fun f => (pure (PySem.Fin.done f) : Sem PySem.Fin)) _ _ _ _
    rw [Sem.wp_bind']
    refine Sem.wp_mono _ _ _ (fun f q s hq => ?_) (fun e q s hq => hq.elim) _ _ hb
    obtain ⟨_, rfl, rfl⟩ := hq
    rw [Sem.wp_bind', Sem.wp_onRaise]
    refine Sem.wp_mono _ _ _ (fun f q s hq => ?_) (fun e q s hq => hq.elim) _ _ h
    obtain ⟨rfl, rfl⟩ := hq
    exact ⟨rfl, rfl⟩
  obtain ⟨r, s₁, hr, rfl, rfl⟩ := (Sem.wp_iff_runs (model pw w) Γ _ (fun r s₁ => r = .ok .next ∧ s₁ = s') _ _).mp k
  exact hr

theorem top_gen {A : Sem Value} {Bf : Value → Sem Addr} {C : Value → Addr → Code} {s₀ s s' : Shared} {v : Value} {fr : Addr} {p : Pos}
    (hp : Sem.wp (model pw w) G0 (A >>= fun code => Bf code >>= fun f => pure (code, f)) (fun x q s₁ => x = (v, fr) ∧ q = p ∧ s₁ = s) (fun _ _ _ => False) default s₀)
    (hb : Returns (model pw w) (G0.enter (C v fr) none p) p s (.ok .next) s') :
    Runs (model pw w) G0 default (A >>= fun code => Bf code >>= fun f => run (C code f) >>= fun _ => ret .none) [] s₀ (.ret (.ok (.ret .none))) s' := by
  have h : Sem.wp (model pw w) G0 (A >>= fun code => Bf code >>= fun f => run (C code f) >>= fun _ => ret .none) (Sem.finPost (model pw w) G0 fun r s => r = .ok (.ret .none) ∧ s = s')
      (fun e _ s => Except.error e = (.ok (.ret .none) : Result) ∧ s = s') default s₀ := by
    rw [Sem.wp_bind'] at hp ⊢
    refine Sem.wp_mono _ _ _ (fun code q s hq => ?_) (fun e q s hq => hq.elim) _ _ hp
    rw [Sem.wp_bind'] at hq ⊢
    refine Sem.wp_mono _ _ _ (fun fr q s hq => ?_) (fun e q s hq => hq.elim) _ _ hq
    rw [Sem.wp_pure'] at hq
    obtain ⟨h1, rfl, rfl⟩ := hq
    cases h1
    rw [Sem.wp_bind']
    show Sem.wp _ _ (Sem.call (C v fr) none false [] _) _ _ _ _
    rw [Sem.wp_call]
    exact ⟨_, _, hb, rfl, rfl⟩
  obtain ⟨r, s, hr, rfl, rfl⟩ := (Sem.wp_iff_runs (model pw w) G0 _ (fun r s => r = .ok (.ret .none) ∧ s = s') _ _).mp h
  exact hr
end

section
variable {w : World} {os : OsState} (X Y : Obj)
theorem nine_wp : Sem.wp (model pw w) G1 (execs [st 9] menv) (fun f q s => f = .next ∧ q = ⟨95, 0, 95, 32⟩ ∧ s = (S9 w.params X Y).abs os) (fun _ _ _ => False) ⟨89, 0, 94, 31⟩
      ((⟨wrap X Y (Mine.pre.tree_336 w.params), 231, 600, []⟩ : TS).abs os) ∧ Good pw w (S9 w.params X Y) := by
  have key : ∀ (P : Params) (hP : P = w.params)
      (e : evT ⟨pw, P⟩ (evC pw P 60) G1 (execs [st 9] menv) ⟨89, 0, 94, 31⟩ ⟨⟨wrap X Y (Mine.pre.tree_336 P), 231, 600, []⟩, [(.ok .next, Send P X Y)], []⟩ =
        some (.ok .next, ⟨95, 0, 95, 32⟩, ⟨S9 P X Y, [], [(GF, pS, SL P X Y 0, .ok .next, Send P X Y)]⟩)),
      Sem.wp (model pw w) G1 (execs [st 9] menv) (fun f q s => f = .next ∧ q = ⟨95, 0, 95, 32⟩ ∧ s = (S9 w.params X Y).abs os) (fun _ _ _ => False) ⟨89, 0, 94, 31⟩
        ((⟨wrap X Y (Mine.pre.tree_336 w.params), 231, 600, []⟩ : TS).abs os) ∧ Good pw w (S9 w.params X Y) := by
    intro P hP e
    subst hP
    have l : LogOk pw w os [(GF, pS, SL w.params X Y 0, .ok .next, Send w.params X Y)] := by
      intro x hx
      rw [List.mem_singleton.mp hx]
      exact loop_runs X Y none _ none
    have h := wp_of_ev (os := os) e good_nil l
    exact h
  obtain ⟨b, hb⟩ := pf_self w
  cases b with
  | false => exact key _ hb (nine_false w X Y)
  | true => exact key _ hb (nine_true w X Y)

theorem B_split : B = B.take 9 ++ ([st 9] ++ B.drop 10) := by kernel_rfl

theorem body_wp : Sem.wp (model pw w) G1 (execs (B.take 9 ++ ([st 9] ++ B.drop 10)) menv) (fun f _ s => f = .next ∧ s = (S13 w.params X Y).abs os) (fun _ _ _ => False) default ((⟨wrap X Y (Mine.pre.tree_33 w.params), 33, 279, []⟩ : TS).abs os) := by
  have h9 := nine_wp (w := w) (os := os) X Y
  have h1 := wp_of_ev (os := os) (first_is w.params X Y) good_nil log_nil
  have h3 := wp_of_ev (os := os) (rest_is w.params X Y) h9.2 log_nil
  have h := body_gen h1.1 h9.1 h3.1
  revert h
  generalize S13 w.params X Y = z
  exact id

theorem body_runs : Returns (model pw w) G1 default ((⟨wrap X Y (Mine.pre.tree_33 w.params), 33, 279, []⟩ : TS).abs os) (.ok .next) ((S13 w.params X Y).abs os) := by
  have hb := wp_of_ev (os := os) (block_is w.params X Y) good_nil log_nil
  have h := body_wp (w := w) (os := os) X Y
  rw [← B_split] at h
  have k := body_ret (b := B) (env := menv) rfl hb.1 h
  exact k

theorem top_runs : Runs (model pw w) G0 default (topStub pw).cur [] ((⟨wrap X Y (Mine.pre.tree_33 w.params), 29, 273, []⟩ : TS).abs os) (.ret (.ok (.ret .none))) ((S13 w.params X Y).abs os) := by
  have hp := wp_of_ev (os := os) (pre_is w.params X Y) good_nil log_nil
  have h := top_gen (C := fun code frame => .body (behindTheImports pw) { scope := pw.main.scope, locals := mainNs, globals := mainNs, cells := [], code, frame := some frame }) hp.1 (body_runs (w := w) (os := os) X Y)
  exact h
end
end
end Mine
namespace Mine
section
open PySem PySem.W PySem.Calls PyProof.Rows
set_option maxRecDepth 100000
set_option maxHeartbeats 0
def qv : Program := view pw [0, 2, 3, 4, 5, 7, 8, 9, 12, 13, 14]
abbrev qloose : List Str := [Str.ofString "HeaderTable"]
noncomputable def H0 (P : Params) (X Y : Obj) : Heap := absHeap (wrap X Y (Mine.pre.tree_33 P)) 29 {}
noncomputable def H1 (P : Params) (X Y : Obj) : Heap := absHeap (S13 P X Y).t 803 {}
noncomputable def sh1 (P : Params) (X Y : Obj) (os : OsState) : Shared := ⟨H1 P X Y, #[], {}, 1115, os⟩
section
variable (P : Params) (X Y : Obj) (os : OsState)
theorem look1 : (staticsOk (importedModules pw.main.body) (H0 P X Y) (H1 P X Y) && namesBound pw (H1 P X Y) && gensDone (sh1 P X Y os) && laidKept (H0 P X Y) (H1 P X Y)) = true := by kernel_rfl
theorem look2 : openSeen qv qloose (importedModules pw.main.body) (fun s => xlAt qv [] s && recOk [] s) true (sh1 P X Y os) = openGood qv qloose := by kernel_rfl
/-- what stood ahead of the top and is not its own stands behind it -/
theorem look3 : ([0, 1, 4, 5, 7, 8, 9, 10, 11, 12, 13, 14, 15, 16, 17, 18, 19, 20, 21, 22, 23, 24, 25, 26, 27, 28] : List Nat).map (S13 P X Y).t.get = ([0, 1, 4, 5, 7, 8, 9, 10, 11, 12, 13, 14, 15, 16, 17, 18, 19, 20, 21, 22, 23, 24, 25, 26, 27, 28] : List Nat).map (wrap X Y (Mine.pre.tree_33 P)).get := by kernel_rfl
theorem look4 : ((H0 P X Y).nsMap mainGlobals "__annotations__", (H0 P X Y).isNs mainGlobals, (S13 P X Y).n, (S13 P X Y).k) = (some (.ref 6), true, 803, 1115) := by kernel_rfl
end
end
end Mine
namespace Mine
section
open PySem PySem.W PySem.Calls PyProof.Rows
set_option maxRecDepth 100000
set_option maxHeartbeats 0
theorem opening_is (w : World) : (fencedOpening treeTable pw w 900).map (fun s => ((s.heap.objs.toList.set 19 default).set 28 default, s.heap.life, s.gens, s.drawn, s.toks)) =
    some ((wrap default default (Mine.pre.tree_33 w.params)).list 29, {}, #[], {}, 273) := by kernel_rfl
theorem some19 (P : Params) : (Mine.pre.tree_33 P).get 19 = some (Mine.pre.o_20 P) := rfl
theorem some28 (P : Params) : (Mine.pre.tree_33 P).get 28 = some (Mine.pre.o_29 P) := rfl
theorem wrap_get {X Y : Obj} {P : Params} (i : Nat) : (wrap X Y (Mine.pre.tree_33 P)).get i = if i = 28 then some Y else if i = 19 then some X else (Mine.pre.tree_33 P).get i := by
  unfold wrap
  rw [BT.get_set, BT.get_set, BT.get_set, some19]
  by_cases h : i = 28
  · subst h
    rw [if_pos rfl, if_pos rfl, if_neg (by decide), some28]
    rfl
  · rw [if_neg h, if_neg h]
    by_cases h' : i = 19
    · rw [if_pos h', if_pos h']; rfl
    · rw [if_neg h', if_neg h']

theorem opening_some (w : World) : ∃ s₀ X Y, fencedOpening treeTable pw w 900 = some s₀ ∧ s₀ = ⟨absHeap (wrap X Y (Mine.pre.tree_33 w.params)) 29 {}, #[], {}, 273, s₀.os⟩ := by
  obtain ⟨s, hs, e⟩ := Option.map_eq_some_iff.mp (opening_is w)
  obtain ⟨⟨⟨objs⟩, life⟩, gens, drawn, toks, os⟩ := s
  simp only [Prod.mk.injEq] at e
  obtain ⟨e1, rfl, rfl, rfl, rfl⟩ := e
  have hlen : objs.length = 29 := by
    have := congrArg List.length e1
    simpa [BT.list] using this
  refine ⟨_, objs[19], objs[28], hs, ?_⟩
  have : objs = (wrap objs[19] objs[28] (Mine.pre.tree_33 w.params)).list 29 := by
    apply List.ext_getElem?
    intro i
    have ei := congrArg (fun l : List Obj => l[i]?) e1
    simp only [List.getElem?_set, BT.list, List.getElem?_map, List.length_set, hlen] at ei ⊢
    by_cases hi : i < 29
    · rw [List.getElem?_range hi] at ei ⊢
      simp only [Option.map_some, wrap_get] at ei ⊢
      by_cases h28 : i = 28
      · subst h28
        rw [List.getElem?_eq_getElem (by omega)]
        simp
      · by_cases h19 : i = 19
        · subst h19
          rw [List.getElem?_eq_getElem (by omega)]
          simp
        · simp only [Ne.symm h28, Ne.symm h19, h28, h19, if_false] at ei ⊢
          exact ei
    · rw [List.getElem?_eq_none (by omega), List.getElem?_eq_none (by rw [List.length_range]; omega)]
      rfl
  show Shared.mk ⟨⟨objs⟩, {}⟩ #[] {} 273 os = _
  rw [show absHeap (wrap objs[19] objs[28] (Mine.pre.tree_33 w.params)) 29 {} = ⟨⟨(wrap objs[19] objs[28] (Mine.pre.tree_33 w.params)).list 29⟩, {}⟩ from rfl, ← this]
end
end Mine
namespace Mine
section
open PySem PySem.W PySem.Calls PyProof.Rows
set_option maxRecDepth 100000
set_option maxHeartbeats 400000

theorem sh1_is (P : Params) (X Y : Obj) (os : OsState) : (S13 P X Y).abs os = sh1 P X Y os := by
  have h := look4 P X Y
  simp only [Prod.mk.injEq] at h
  obtain ⟨_, _, h3, h4⟩ := h
  show Shared.mk (absHeap (S13 P X Y).t (S13 P X Y).n {}) #[] {} (S13 P X Y).k os = Shared.mk (absHeap (S13 P X Y).t 803 {}) #[] {} 1115 os
  rw [h3, h4]

theorem kept_is (P : Params) (X Y : Obj) (b : Nat) (o : Obj) (h : (H0 P X Y).get? b = some o) (h2 : b ≠ 2) (h3 : b ≠ 3) (h6 : b ≠ 6) : (H1 P X Y).get? b = some o := by
  have hb : b < 29 := by
    have := Heap.lt_size h
    rwa [show (H0 P X Y).objs.size = 29 from absHeap_size _ _ _] at this
  have key : (S13 P X Y).t.get b = (wrap X Y (Mine.pre.tree_33 P)).get b := by
    have l := List.map_inj_left.mp (look3 P X Y)
    refine l b ?_
    have : b = 0 ∨ b = 1 ∨ b = 4 ∨ b = 5 ∨ b = 7 ∨ b = 8 ∨ b = 9 ∨ b = 10 ∨ b = 11 ∨ b = 12 ∨ b = 13 ∨ b = 14 ∨ b = 15 ∨ b = 16 ∨ b = 17 ∨ b = 18 ∨ b = 19 ∨ b = 20 ∨ b = 21 ∨ b = 22 ∨ b = 23 ∨ b = 24 ∨ b = 25 ∨ b = 26 ∨ b = 27 ∨ b = 28 := by omega
    simpa using this
  have e : ∀ n, 29 ≤ n → ∀ t : BT, t.get b = (wrap X Y (Mine.pre.tree_33 P)).get b → (absHeap t n {}).objs[b]? = (absHeap (wrap X Y (Mine.pre.tree_33 P)) 29 {}).objs[b]? := by
    intro n hn t ht
    rw [absHeap_at, absHeap_at, if_pos hb, if_pos (by omega), ht]
  unfold Heap.get? at h ⊢
  rw [show (H1 P X Y).objs[b]? = (H0 P X Y).objs[b]? from e 803 (by decide) _ key]
  exact h

/-- what the top leaves -/
theorem behind (w : World) : (∃ s, AfterRun (opening pw) w s) ∧ ∀ s, AfterRun (opening pw) w s → ∃ s₀, fenceModules? pw s = some s₀ ∧ s₀.gens = #[] ∧ ∃ s₁, TopRan pw w s₀ s₁ ∧ s₁.asleep ∧ s₁.gens = #[] ∧
    s₁.heap.isNs mainGlobals = true ∧ Ground qv qloose [] (XL qv []) w s₁ (s₁.heap.nsMap mainGlobals) (s₁.heap.nsMap builtinsNs) s₁.heap ∧ ∃ X Y, s₁.heap = H1 w.params X Y := by
  obtain ⟨s₀, X, Y, h0, hs₀⟩ := opening_some w
  have h0' := h0
  unfold fencedOpening at h0'
  rw [← table_eq_tree] at h0'
  obtain ⟨s, h4, h5⟩ := Option.bind_eq_some_iff.mp h0'
  have A := AfterImport.of_importEnds h4
  refine ⟨⟨s, A⟩, fun s' hs' => ?_⟩
  obtain rfl : s' = s := AfterImport.unique hs' A
  have z : s₀.asleep := Shared.asleep_of_life (fence_lifeW h5) A.life
  have hr := top_runs (w := w) (os := s₀.os) X Y
  have e0 : (⟨wrap X Y (Mine.pre.tree_33 w.params), 29, 273, []⟩ : TS).abs s₀.os = s₀ := hs₀.symm
  rw [e0, sh1_is] at hr
  obtain ⟨hrun, hlife⟩ := ran_of_runs z (show (sh1 w.params X Y s₀.os).gens = #[] from rfl) hr
  have hh0 : s₀.heap = H0 w.params X Y := by rw [hs₀]; rfl
  have l4 := look4 w.params X Y
  simp only [Prod.mk.injEq] at l4
  obtain ⟨G, g0, g1, g2, g3, g4, g5⟩ := ground_of_open (w := w) (XP := XL qv []) (fun s e => xl_of s (Bool.and_eq_true_iff.mp e).1) (by decide +kernel) (look2 w.params X Y s₀.os)
  have hs := look1 w.params X Y s₀.os
  obtain ⟨hs, hlk⟩ := Bool.and_eq_true_iff.mp hs
  obtain ⟨hs, hgd⟩ := Bool.and_eq_true_iff.mp hs
  obtain ⟨hs, hnb⟩ := Bool.and_eq_true_iff.mp hs
  have hst := statics_of_ok hs
  have hlk' := laid_of_kept hlk
  refine ⟨s₀, h5, by rw [hs₀], sh1 w.params X Y s₀.os, ⟨hrun, hlife, Shared.rest_eq rfl, ?_, g2, ?_, g3, g4, g5, gens_of_done hgd, names_of_bound hnb, ?_⟩, Shared.asleep_of_life hlife z, rfl, g1, G, X, Y, rfl⟩
  · intro b o hb hn
    rw [hh0] at hb
    refine kept_is w.params X Y b o hb (fun q => hn (.inr (.inl q))) (fun q => hn (.inl q)) (fun q => hn (.inr (.inr ?_)))
    rw [hh0, Pin.globalOf_eq l4.2.1, l4.1, q]
  · rw [hh0]; exact hst
  · rw [hh0]; exact hlk'
end
end Mine
namespace Mine
section
open PySem PySem.W PySem.Calls PyProof.Rows
set_option maxRecDepth 100000
set_option maxHeartbeats 400000
abbrev ol : OpenLaw := PySem.Challenge.rw_ds0003_01
abbrev olr : RowW := ol.row.toRowW

theorem claim_of (YP : World → Heap → Prop) (hY : ∀ w X Y, YP w (H1 w.params X Y)) (hYk : ∀ w h h', YP w h → (∀ b o, h.get? b = some o → h'.get? b = some o) → YP w h')
    {d : DefRec} {kwd : List (Str × Expr)} (hdef : defOf qv olr.name = some (d, kwd)) (hp : olr.prog.theDef olr.name = some (d.params, d.body, d.scope)) (hk : kwWritten? d.params.kwonlyargs d.params.kw_defaults = some kwd)
    (ok : (opensWell olr.prog && (frees olr && olr.within.isEmpty)) = true) (hb : olr.prog.bare) (hw : olr.promised)
    (call : WalkO qv qloose (XL qv []) YP olr d kwd fun f vs => PySem.call f vs) : olr.claim.HoldsOpenBy (callStub olr.name) [olr.name] ol.row.keeps false := by
  obtain ⟨o1, k5⟩ := Bool.and_eq_true_iff.mp ok
  obtain ⟨k5, k6⟩ := Bool.and_eq_true_iff.mp k5
  obtain ⟨hsame, hu, ha, hap, hm⟩ := frees_parts k5
  refine ⟨⟨hb, o1, rfl⟩, hw.witness, fun w => ⟨(behind w).1, fun s' hs' => ?_⟩⟩
  obtain ⟨s₀, hf, hg0, s, hT, hz, hgens, hg, G0, X, Y, hheap⟩ := (behind w).2 s' hs'
  have hT' := hT
  have pin : isTheDefsW olr.prog s.heap olr.name := pinned_of_view hg G0 hdef hp hk
  refine ⟨s₀, hf, hg0, s, hT, fun n hn => by rw [List.mem_singleton.mp hn]; exact pin, fun x hx => (nomatch hx), fun x hx => (nomatch hx), ?_⟩
  have G : Ground qv qloose olr.records (XL qv []) w s _ _ s.heap := G0
  refine ClaimW.callFrom_of_specG (c := olr.claim) (tree := fun vs => do match ← nsGet mainNs olr.name with
      | some f => do ret (← PySem.call f vs)
      | none => unsupported "claim.caller:no-such-global") hz hgens fun args hpre hlay ord hord => ?_
  obtain ⟨⟨vs, s₁⟩, hlaid⟩ := Option.isSome_iff_exists.mp (layAllW_isSome (P := w.params) (ord := ord) G.has args olr.args s (pre_splitW hpre).1)
  have keeps := layAllW_keeps _ _ _ hlaid
  have hal := layAllW_rest _ _ _ hlaid
  obtain ⟨as, hrd, hin, hold⟩ := reads_layAllW hord _ _ _ hlaid hlay s₁.heap (fun _ _ e => e)
  have L : Laid olr.records w s s₁ args vs as := ⟨⟨ord, hord, hlaid⟩, hrd, hin, hold, keeps, hal.1.trans hgens, hal.2.2.1⟩
  have G₁ := G.keeps XL.keeps keeps
  have yp : YP w s₁.heap := hYk _ _ _ (hheap ▸ hY w X Y) keeps
  obtain ⟨a, o, pm, cd, doc, dV, kV, h1, h2, h3, h4, h5⟩ := G₁.fn hdef
  have h := call w s s₁ _ _ G₁ yp a o pm cd doc dV kV h2 h3 h4 h5 (defOf_name hdef ▸ h1) L.gens args vs as hpre hlay L.reads L.well (L.low G.low)
  have hi := ident_freeW hu ha hap
  have hwi : olr.claim.within = [] := List.isEmpty_iff.mp k6
  refine ⟨vs, s₁, hlaid, wpAny_bind (wpAny_nsGet G₁.T.g ?_)⟩
  rw [h1]
  refine wpAny_bind (wpAny_mono h (fun v s' g => wpAny_pure ⟨_, rfl, ?_⟩) fun e s' g => ?_)
  · have z := g.laid (c := olr.claim) hsame hwi hi L
    exact ⟨z.1, z.2.1, z.2.2, fun q => nomatch q⟩
  · have z := g.laid (c := olr.claim) hsame hwi hi L
    exact ⟨z.1, z.2.1, z.2.2, fun q => nomatch q⟩
end
end Mine
namespace Mine
section
open PySem PySem.W PySem.Calls PyProof.Rows
set_option maxRecDepth 100000
set_option maxHeartbeats 0
set_option linter.unusedVariables false
noncomputable def k3 (P : Params) : Obj := { cls := (.type "dict"), data := .dict #[sk P "__name__" 165 (.str (PySem.Str.ofString "law_ds0003_01") 1093), sk P "__doc__" 166 .none, sk P "__package__" 167 .none, sk P "__loader__" 168 (.builtin "__main__.__loader__#opaque"), sk P "__spec__" 169 .none, sk P "__annotations__" 170 (.ref 6), sk P "__builtins__" 171 (.ref 4), sk P "__file__" 173 (.str (PySem.Str.ofString "/claim/cut.py") 172), sk P "__cached__" 174 .none, sk P "deque" 272 (.type "collections.deque"), sk P "HPACKError" 300 (.ref 42), sk P "HPACKDecodingError" 316 (.ref 55), sk P "InvalidTableIndexError" 332 (.ref 67), sk P "InvalidTableIndex" 348 (.ref 79), sk P "table_entry_size" 358 (.ref 88), sk P "HeaderTable" 588 (.ref 219), sk P "_build_static_table_mapping" 599 (.ref 230), sk P "_law_pair" 1102 (.ref 792), sk P "_law_found" 1108 (.ref 797), sk P "law" 1114 (.ref 802)] 20 }
noncomputable def k218 (P : Params) : Obj := { cls := (.type "dict"), data := .dict #[sk P "__module__" 366 (.str (PySem.Str.ofString "hpack.table") 349), sk P "__firstlineno__" 370 (.int 14 369), sk P "DEFAULT_SIZE" 372 (.int 4096 371), sk P "STATIC_TABLE" 495 (.ref 157), sk P "STATIC_TABLE_LENGTH" 498 (.int 61 497), sk P "__init__" 505 (.ref 164), sk P "get_by_index" 514 (.ref 171), sk P "__repr__" 521 (.ref 178), sk P "add" 531 (.ref 185), sk P "search" 547 (.ref 192), sk P "maxsize" 555 (.ref 209), sk P "_shrink" 576 (.ref 216), sk P "__static_attributes__" 581 (.ref 217), sk P "__dict__" 583 (.ref 220), sk P "__weakref__" 585 (.ref 221), sk P "__doc__" 586 .none, sk P "STATIC_TABLE_MAPPING" 1092 (.ref 232)] 5 }
noncomputable def k791 (P : Params) : Obj := { cls := (.type "code"), data := .fields #[(.str (PySem.Str.ofString "_law_pair") 1095), (.str (PySem.Str.ofString "_law_pair") 1096), (.str (PySem.Str.ofString "/claim/cut.py") 1097), (.int 97 0), (.int 1 0), (.int 0 0), (.int 0 0), (.int 3 0), (.ref 786), (.bool true), (.int 273 0), (.ref 787), .none, (.ref 788), (.ref 789), (.ref 790), (.int 1100 0), (.int 97 0), (.str (PySem.Str.ofString "/claim/cut.py") 1101)] }
noncomputable def k796 (P : Params) : Obj := { cls := (.type "code"), data := .fields #[(.str (PySem.Str.ofString "_law_found") 1103), (.str (PySem.Str.ofString "_law_found") 1104), (.str (PySem.Str.ofString "/claim/cut.py") 1105), (.int 100 0), (.int 3 0), (.int 0 0), (.int 0 0), (.int 3 0), (.ref 793), (.bool true), (.int 273 0), (.ref 794), .none, .none, .none, (.ref 795), (.int 1106 0), (.int 100 0), (.str (PySem.Str.ofString "/claim/cut.py") 1107)] }
noncomputable def k801 (P : Params) : Obj := { cls := (.type "code"), data := .fields #[(.str (PySem.Str.ofString "law") 1109), (.str (PySem.Str.ofString "law") 1110), (.str (PySem.Str.ofString "/claim/cut.py") 1111), (.int 109 0), (.int 1 0), (.int 0 0), (.int 0 0), (.int 3 0), (.ref 798), (.bool true), (.int 273 0), (.ref 799), .none, .none, .none, (.ref 800), (.int 1112 0), (.int 109 0), (.str (PySem.Str.ofString "/claim/cut.py") 1113)] }
noncomputable def KK : Params → Frag := fun P =>
  (nat_lit 2, Mine.pre.o_34 P) ::
  (nat_lit 3, k3 P) ::
  (nat_lit 41, Mine.pre.o_45 P) ::
  (nat_lit 42, Mine.pre.o_53 P) ::
  (nat_lit 43, Mine.pre.o_47 P) ::
  (nat_lit 54, Mine.pre.o_62 P) ::
  (nat_lit 55, Mine.pre.o_69 P) ::
  (nat_lit 66, Mine.pre.o_78 P) ::
  (nat_lit 67, Mine.pre.o_85 P) ::
  (nat_lit 78, Mine.pre.o_94 P) ::
  (nat_lit 79, Mine.pre.o_95 P) ::
  (nat_lit 87, Mine.pre.o_103 P) ::
  (nat_lit 88, Mine.pre.o_104 P) ::
  (nat_lit 96, Mine.pre.o_115 P) ::
  (nat_lit 97, Mine.pre.o_116 P) ::
  (nat_lit 98, Mine.pre.o_117 P) ::
  (nat_lit 99, Mine.pre.o_118 P) ::
  (nat_lit 100, Mine.pre.o_119 P) ::
  (nat_lit 101, Mine.pre.o_120 P) ::
  (nat_lit 102, Mine.pre.o_121 P) ::
  (nat_lit 103, Mine.pre.o_122 P) ::
  (nat_lit 104, Mine.pre.o_123 P) ::
  (nat_lit 105, Mine.pre.o_124 P) ::
  (nat_lit 106, Mine.pre.o_125 P) ::
  (nat_lit 107, Mine.pre.o_126 P) ::
  (nat_lit 108, Mine.pre.o_127 P) ::
  (nat_lit 109, Mine.pre.o_128 P) ::
  (nat_lit 110, Mine.pre.o_129 P) ::
  (nat_lit 111, Mine.pre.o_130 P) ::
  (nat_lit 112, Mine.pre.o_131 P) ::
  (nat_lit 113, Mine.pre.o_132 P) ::
  (nat_lit 114, Mine.pre.o_133 P) ::
  (nat_lit 115, Mine.pre.o_134 P) ::
  (nat_lit 116, Mine.pre.o_135 P) ::
  (nat_lit 117, Mine.pre.o_136 P) ::
  (nat_lit 118, Mine.pre.o_137 P) ::
  (nat_lit 119, Mine.pre.o_138 P) ::
  (nat_lit 120, Mine.pre.o_139 P) ::
  (nat_lit 121, Mine.pre.o_140 P) ::
  (nat_lit 122, Mine.pre.o_141 P) ::
  (nat_lit 123, Mine.pre.o_142 P) ::
  (nat_lit 124, Mine.pre.o_143 P) ::
  (nat_lit 125, Mine.pre.o_144 P) ::
  (nat_lit 126, Mine.pre.o_145 P) ::
  (nat_lit 127, Mine.pre.o_146 P) ::
  (nat_lit 128, Mine.pre.o_147 P) ::
  (nat_lit 129, Mine.pre.o_148 P) ::
  (nat_lit 130, Mine.pre.o_149 P) ::
  (nat_lit 131, Mine.pre.o_150 P) ::
  (nat_lit 132, Mine.pre.o_151 P) ::
  (nat_lit 133, Mine.pre.o_152 P) ::
  (nat_lit 134, Mine.pre.o_153 P) ::
  (nat_lit 135, Mine.pre.o_154 P) ::
  (nat_lit 136, Mine.pre.o_155 P) ::
  (nat_lit 137, Mine.pre.o_156 P) ::
  (nat_lit 138, Mine.pre.o_157 P) ::
  (nat_lit 139, Mine.pre.o_158 P) ::
  (nat_lit 140, Mine.pre.o_159 P) ::
  (nat_lit 141, Mine.pre.o_160 P) ::
  (nat_lit 142, Mine.pre.o_161 P) ::
  (nat_lit 143, Mine.pre.o_162 P) ::
  (nat_lit 144, Mine.pre.o_163 P) ::
  (nat_lit 145, Mine.pre.o_164 P) ::
  (nat_lit 146, Mine.pre.o_165 P) ::
  (nat_lit 147, Mine.pre.o_166 P) ::
  (nat_lit 148, Mine.pre.o_167 P) ::
  (nat_lit 149, Mine.pre.o_168 P) ::
  (nat_lit 150, Mine.pre.o_169 P) ::
  (nat_lit 151, Mine.pre.o_170 P) ::
  (nat_lit 152, Mine.pre.o_171 P) ::
  (nat_lit 153, Mine.pre.o_172 P) ::
  (nat_lit 154, Mine.pre.o_173 P) ::
  (nat_lit 155, Mine.pre.o_174 P) ::
  (nat_lit 156, Mine.pre.o_175 P) ::
  (nat_lit 157, Mine.pre.o_176 P) ::
  (nat_lit 163, Mine.pre.o_182 P) ::
  (nat_lit 164, Mine.pre.o_183 P) ::
  (nat_lit 170, Mine.pre.o_189 P) ::
  (nat_lit 171, Mine.pre.o_190 P) ::
  (nat_lit 184, Mine.pre.o_203 P) ::
  (nat_lit 185, Mine.pre.o_204 P) ::
  (nat_lit 191, Mine.pre.o_210 P) ::
  (nat_lit 192, Mine.pre.o_211 P) ::
  (nat_lit 198, Mine.pre.o_217 P) ::
  (nat_lit 199, Mine.pre.o_218 P) ::
  (nat_lit 207, Mine.pre.o_226 P) ::
  (nat_lit 208, Mine.pre.o_227 P) ::
  (nat_lit 209, Mine.pre.o_228 P) ::
  (nat_lit 215, Mine.pre.o_234 P) ::
  (nat_lit 216, Mine.pre.o_235 P) ::
  (nat_lit 218, k218 P) ::
  (nat_lit 219, Mine.pre.o_238 P) ::
  (nat_lit 220, Mine.pre.o_239 P) ::
  (nat_lit 221, Mine.pre.o_240 P) ::
  (nat_lit 791, k791 P) ::
  (nat_lit 792, lawFn "_law_pair" 11 791) ::
  (nat_lit 796, k796 P) ::
  (nat_lit 797, lawFn "_law_found" 12 796) ::
  (nat_lit 801, k801 P) ::
  (nat_lit 802, lawFn "law" 13 801) :: []
def KA : List Addr := nat_lit 2 :: nat_lit 3 :: nat_lit 41 :: nat_lit 42 :: nat_lit 43 :: nat_lit 54 :: nat_lit 55 :: nat_lit 66 :: nat_lit 67 :: nat_lit 78 :: nat_lit 79 :: nat_lit 87 :: nat_lit 88 :: nat_lit 96 :: nat_lit 97 :: nat_lit 98 :: nat_lit 99 :: nat_lit 100 :: nat_lit 101 :: nat_lit 102 :: nat_lit 103 :: nat_lit 104 :: nat_lit 105 :: nat_lit 106 :: nat_lit 107 :: nat_lit 108 :: nat_lit 109 :: nat_lit 110 :: nat_lit 111 :: nat_lit 112 :: nat_lit 113 :: nat_lit 114 :: nat_lit 115 :: nat_lit 116 :: nat_lit 117 :: nat_lit 118 :: nat_lit 119 :: nat_lit 120 :: nat_lit 121 :: nat_lit 122 :: nat_lit 123 :: nat_lit 124 :: nat_lit 125 :: nat_lit 126 :: nat_lit 127 :: nat_lit 128 :: nat_lit 129 :: nat_lit 130 :: nat_lit 131 :: nat_lit 132 :: nat_lit 133 :: nat_lit 134 :: nat_lit 135 :: nat_lit 136 :: nat_lit 137 :: nat_lit 138 :: nat_lit 139 :: nat_lit 140 :: nat_lit 141 :: nat_lit 142 :: nat_lit 143 :: nat_lit 144 :: nat_lit 145 :: nat_lit 146 :: nat_lit 147 :: nat_lit 148 :: nat_lit 149 :: nat_lit 150 :: nat_lit 151 :: nat_lit 152 :: nat_lit 153 :: nat_lit 154 :: nat_lit 155 :: nat_lit 156 :: nat_lit 157 :: nat_lit 163 :: nat_lit 164 :: nat_lit 170 :: nat_lit 171 :: nat_lit 184 :: nat_lit 185 :: nat_lit 191 :: nat_lit 192 :: nat_lit 198 :: nat_lit 199 :: nat_lit 207 :: nat_lit 208 :: nat_lit 209 :: nat_lit 215 :: nat_lit 216 :: nat_lit 218 :: nat_lit 219 :: nat_lit 220 :: nat_lit 221 :: nat_lit 791 :: nat_lit 792 :: nat_lit 796 :: nat_lit 797 :: nat_lit 801 :: nat_lit 802 :: []
theorem KA_is (P : Params) : KA = (KK P).map (·.1) := by kernel_rfl
theorem KK_is (P : Params) (X Y : Obj) : KA.map (S13 P X Y).get = (KK P).map fun p => some p.2 := by kernel_rfl
end
end Mine
namespace Mine
section
open PySem PySem.W PySem.Calls PyProof.Rows
set_option maxRecDepth 100000
abbrev dqT : String := "collections.deque"
theorem plainAttrs_dq : PlainAttrs "collections.deque" :=
  ⟨⟨"collections.deque.__getattribute__", by rw [typeLookup_type, builtinLookup_eq_fast]; kernel_rfl, by decide +kernel⟩, by rw [typeLookup_type, builtinLookup_eq_fast]; kernel_rfl⟩
theorem slot_dq_clear : Slot "collections.deque" "clear" "collections.deque.clear" :=
  .of (owner := "collections.deque") (n := "clear") (by rw [typeLookup_type, builtinLookup_eq_fast]; kernel_rfl) (by decide +kernel) (by decide +kernel) (by decide +kernel)
    (by first | exact .inl (by decide +kernel) | exact .inr (by decide +kernel)) (by rw [isSubtype_type]; kernel_rfl)
theorem slot_dq_appendleft : Slot "collections.deque" "appendleft" "collections.deque.appendleft" :=
  .of (owner := "collections.deque") (n := "appendleft") (by rw [typeLookup_type, builtinLookup_eq_fast]; kernel_rfl) (by decide +kernel) (by decide +kernel) (by decide +kernel)
    (by first | exact .inl (by decide +kernel) | exact .inr (by decide +kernel)) (by rw [isSubtype_type]; kernel_rfl)
theorem slot_dq_pop : Slot "collections.deque" "pop" "collections.deque.pop" :=
  .of (owner := "collections.deque") (n := "pop") (by rw [typeLookup_type, builtinLookup_eq_fast]; kernel_rfl) (by decide +kernel) (by decide +kernel) (by decide +kernel)
    (by first | exact .inl (by decide +kernel) | exact .inr (by decide +kernel)) (by rw [isSubtype_type]; kernel_rfl)
theorem slot_dq_len : Slot "collections.deque" "__len__" "collections.deque.__len__" :=
  .of (owner := "collections.deque") (n := "__len__") (by rw [typeLookup_type, builtinLookup_eq_fast]; kernel_rfl) (by decide +kernel) (by decide +kernel) (by decide +kernel)
    (by first | exact .inl (by decide +kernel) | exact .inr (by decide +kernel)) (by rw [isSubtype_type]; kernel_rfl)
theorem slot_dq_getitem : Slot "collections.deque" "__getitem__" "collections.deque.__getitem__" :=
  .of (owner := "collections.deque") (n := "__getitem__") (by rw [typeLookup_type, builtinLookup_eq_fast]; kernel_rfl) (by decide +kernel) (by decide +kernel) (by decide +kernel)
    (by first | exact .inl (by decide +kernel) | exact .inr (by decide +kernel)) (by rw [isSubtype_type]; kernel_rfl)
theorem slot_dq_iter : Slot "collections.deque" "__iter__" "collections.deque.__iter__" :=
  .of (owner := "collections.deque") (n := "__iter__") (by rw [typeLookup_type, builtinLookup_eq_fast]; kernel_rfl) (by decide +kernel) (by decide +kernel) (by decide +kernel)
    (by first | exact .inl (by decide +kernel) | exact .inr (by decide +kernel)) (by rw [isSubtype_type]; kernel_rfl)
theorem slot_dq_init : Slot "collections.deque" "__init__" "collections.deque.__init__" :=
  .of (owner := "collections.deque") (n := "__init__") (by rw [typeLookup_type, builtinLookup_eq_fast]; kernel_rfl) (by decide +kernel) (by decide +kernel) (by decide +kernel)
    (by first | exact .inl (by decide +kernel) | exact .inr (by decide +kernel)) (by rw [isSubtype_type]; kernel_rfl)
theorem slot_dqi_next : Slot "collections._deque_iterator" "__next__" "collections._deque_iterator.__next__" :=
  .of (owner := "collections._deque_iterator") (n := "__next__") (by rw [typeLookup_type, builtinLookup_eq_fast]; kernel_rfl) (by decide +kernel) (by decide +kernel) (by decide +kernel)
    (by first | exact .inl (by decide +kernel) | exact .inr (by decide +kernel)) (by rw [isSubtype_type]; kernel_rfl)
theorem type_dq_clear : typeOf (.builtin "collections.deque.clear") = pure (.type "method_descriptor") := by show builtinType _ = _; rw [builtinType_eq_fast]; kernel_rfl
theorem type_dq_appendleft : typeOf (.builtin "collections.deque.appendleft") = pure (.type "method_descriptor") := by show builtinType _ = _; rw [builtinType_eq_fast]; kernel_rfl
theorem type_dq_pop : typeOf (.builtin "collections.deque.pop") = pure (.type "method_descriptor") := by show builtinType _ = _; rw [builtinType_eq_fast]; kernel_rfl
theorem entry_dq_clear : entryFor table "collections.deque.clear" = some Builtin.«collections.deque.clear» := entryFor_of_tree (by kernel_rfl)
theorem entry_dq_appendleft : entryFor table "collections.deque.appendleft" = some Builtin.«collections.deque.appendleft» := entryFor_of_tree (by kernel_rfl)
theorem entry_dq_pop : entryFor table "collections.deque.pop" = some Builtin.«collections.deque.pop» := entryFor_of_tree (by kernel_rfl)
theorem entry_dq_len : entryFor table "collections.deque.__len__" = some Builtin.«collections.deque.__len__» := entryFor_of_tree (by kernel_rfl)
theorem entry_dq_getitem : entryFor table "collections.deque.__getitem__" = some Builtin.«collections.deque.__getitem__» := entryFor_of_tree (by kernel_rfl)
theorem entry_dq_iter : entryFor table "collections.deque.__iter__" = some Builtin.«collections.deque.__iter__» := entryFor_of_tree (by kernel_rfl)
theorem entry_dq_init : entryFor table "collections.deque.__init__" = some Builtin.«collections.deque.__init__» := entryFor_of_tree (by kernel_rfl)
theorem entry_dq_new : entryFor table "collections.deque.__new__" = some Builtin.«collections.deque.__new__» := entryFor_of_tree (by kernel_rfl)
theorem entry_dqi_next : entryFor table "collections._deque_iterator.__next__" = some Builtin.«collections._deque_iterator.__next__» := entryFor_of_tree (by kernel_rfl)
theorem args_dq_clear (a : Value) : argsOk "collections.deque.clear" ⟨[a], []⟩ := by unfold argsOk; kernel_rfl
theorem args_dq_appendleft (a b : Value) : argsOk "collections.deque.appendleft" ⟨[a, b], []⟩ := by unfold argsOk; kernel_rfl
theorem args_dq_pop (a : Value) : argsOk "collections.deque.pop" ⟨[a], []⟩ := by unfold argsOk; kernel_rfl
theorem args_dq_len (a : Value) : argsOk "collections.deque.__len__" ⟨[a], []⟩ := by unfold argsOk; kernel_rfl
theorem args_dq_getitem (a b : Value) : argsOk "collections.deque.__getitem__" ⟨[a, b], []⟩ := by unfold argsOk; kernel_rfl
theorem args_dq_iter (a : Value) : argsOk "collections.deque.__iter__" ⟨[a], []⟩ := by unfold argsOk; kernel_rfl
theorem args_dqi_next (a : Value) : argsOk "collections._deque_iterator.__next__" ⟨[a], []⟩ := by unfold argsOk; kernel_rfl
theorem mro_dq : mroOf (.type "collections.deque") = pure [.type "collections.deque", .type "object"] := by rw [mroOf_type]; kernel_rfl
theorem lookup_dq_new : typeLookup (.type "collections.deque") "__new__" = pure (some (.builtin "collections.deque.__new__")) := by rw [typeLookup_type, builtinLookup_eq_fast]; kernel_rfl
theorem called_dq : TypeCalled "collections.deque" "collections.deque.__new__" "collections.deque.__init__" :=
  ⟨by decide +kernel, by decide +kernel, ⟨_, _, mro_dq⟩, madeBy_type mro_dq lookup_dq_new (by decide +kernel), by decide +kernel, by rw [isSubtype_type]; kernel_rfl, slot_dq_init⟩
theorem typeCall_dq : checkTypeCall "collections.deque" ⟨[], []⟩ = pure () := by kernel_rfl
theorem newCall_dq : checkBuiltinCall "collections.deque.__new__" ⟨[.type "collections.deque"], []⟩ = pure () := by kernel_rfl
theorem plain_dq_new : plainId "collections.deque.__new__" = true := by decide +kernel
theorem sub_dq : isSubtype (.type "collections.deque") (.type "collections.deque") = pure true := by rw [isSubtype_type]; kernel_rfl
end
end Mine
namespace Mine
section
open PySem PySem.W PySem.Calls PyProof.Rows
set_option maxRecDepth 100000
/-- a deque: no greatest length, its count of changes, its items -/
abbrev dqO (st : Int) (xs : List Value) : Obj := { cls := .type "collections.deque", data := .fields (Value.none :: Value.int st 0 :: xs).toArray }
theorem dq_extract (st : Int) (xs : List Value) : ((Value.none :: Value.int st 0 :: xs).toArray).extract 2 ((Value.none :: Value.int st 0 :: xs).toArray).size = xs.toArray := by
  simp

section
variable {prog : Program} {w : World} {A : Around} {E : Value → Shared → Prop} {s : Shared} {q : Addr} {st : Int} {xs : List Value}

theorem dq_items {Q : Array Value → Shared → Prop} (ho : s.heap.get? q = some (dqO st xs)) (h : Q xs.toArray s) : wpAny (model prog w) A (Builtin.Deque.items (.ref q)) Q E s := by
  unfold Builtin.Deque.items
  refine wpAny_bind (wpAny_fieldsOf ho rfl (wpAny_pure ?_))
  rw [dq_extract]; exact h
theorem dq_size {Q : Nat → Shared → Prop} (ho : s.heap.get? q = some (dqO st xs)) (h : Q xs.length s) : wpAny (model prog w) A (Builtin.Deque.size (.ref q)) Q E s := by
  unfold Builtin.Deque.size
  exact wpAny_bind (wpAny_fieldsOf ho rfl (wpAny_pure (by simpa using h)))
theorem dq_state {Q : Int → Shared → Prop} (ho : s.heap.get? q = some (dqO st xs)) (h : Q st s) : wpAny (model prog w) A (Builtin.Deque.state (.ref q)) Q E s := by
  unfold Builtin.Deque.state
  exact wpAny_bind (wpAny_field (x := .int st 0) ho rfl (by simp) (wpAny_pure h))
theorem dq_maxlen {Q : Option Nat → Shared → Prop} (ho : s.heap.get? q = some (dqO st xs)) (h : Q none s) : wpAny (model prog w) A (Builtin.Deque.maxlen (.ref q)) Q E s := by
  unfold Builtin.Deque.maxlen
  exact wpAny_bind (wpAny_field (x := .none) ho rfl (by simp) (wpAny_pure h))
theorem dq_change {f : Array Value → Array Value} {ys : List Value} {Q : Unit → Shared → Prop} (ho : s.heap.get? q = some (dqO st xs)) (hf : f xs.toArray = ys.toArray) (hz : ys.length ≤ sizeLine)
    (h : ∀ h', h'.get? q = some (dqO (st + 1) ys) → Heap.SameBut q s.heap h' → Q () { s with heap := h' }) : wpAny (model prog w) A (Builtin.Deque.change (.ref q) f) Q E s := by
  unfold Builtin.Deque.change
  refine wpAny_bind (dq_state ho ?_)
  have e : (fun vs : Array Value => #[vs.getD 0 .none, rawInt (if true then st + 1 else st)] ++ f (vs.extract 2 vs.size)) (Value.none :: Value.int st 0 :: xs).toArray = (Value.none :: Value.int (st + 1) 0 :: ys).toArray := by
    simp only [dq_extract, hf]
    simp [rawInt]
  refine wpAny_updateFields ho rfl (h _ ?_ (Heap.SameBut.update ..)) ?_
  · rw [Heap.get?_update_self _ ho rfl]
    exact congrArg (fun v => some ({ cls := .type "collections.deque", data := .fields v } : Obj)) e
  · have := congrArg Array.size e
    dsimp only at this ⊢
    rw [this]; simp; omega

/-- the count of changes behind a clear -/
def clr (st : Int) : List Value → Int
  | [] => st
  | _ :: _ => st + 1
theorem dq_clear {Q : Value → Shared → Prop} (ho : s.heap.get? q = some (dqO st xs))
    (h : ∀ h', h'.get? q = some (dqO (clr st xs) []) → Heap.SameBut q s.heap h' → Q .none { s with heap := h' }) : wpAny (model prog w) A (call (.builtin "collections.deque.clear") [.ref q]) Q E s := by
  have hT : s.TypeIs (.ref q) "collections.deque" := ⟨_, ho, rfl⟩
  refine wpAny_call (codeAny_call_builtin slot_dq_clear.plain entry_dq_clear (slot_dq_clear.check _ _ _ _ _ _ _ _ hT (args_dq_clear _) ?_))
  show wpAny _ _ (Builtin.Deque.clear (.ref q) >>= fun _ => ret .none) _ _ s
  refine wpAny_bind ?_
  unfold Builtin.Deque.clear
  refine wpAny_bind (dq_items ho ?_)
  cases xs with
  | nil => exact wpAny_pure (wpAny_pure (h s.heap ho (Heap.SameBut.refl _ _)))
  | cons x r =>
    show wpAny _ _ (if (x :: r).toArray.size > 0 then _ else _) _ _ _
    rw [if_pos (by simp)]
    exact wpAny_bind (dq_change (ys := []) ho rfl (by decide) fun h' ho' hs => wpAny_letGo (wpAny_pure (h h' ho' hs)))

theorem dq_appendleft {x : Value} {Q : Value → Shared → Prop} (ho : s.heap.get? q = some (dqO st xs)) (hz : xs.length < sizeLine)
    (h : ∀ h', h'.get? q = some (dqO (st + 1) (x :: xs)) → Heap.SameBut q s.heap h' → Q .none { s with heap := h' }) : wpAny (model prog w) A (call (.builtin "collections.deque.appendleft") [.ref q, x]) Q E s := by
  have hT : s.TypeIs (.ref q) "collections.deque" := ⟨_, ho, rfl⟩
  refine wpAny_call (codeAny_call_builtin slot_dq_appendleft.plain entry_dq_appendleft (slot_dq_appendleft.check _ _ _ _ _ _ _ _ hT (args_dq_appendleft _ _) ?_))
  show wpAny _ _ (Builtin.Deque.pushLeft (.ref q) x >>= fun _ => ret .none) _ _ s
  refine wpAny_bind ?_
  unfold Builtin.Deque.pushLeft
  refine wpAny_bind (dq_change (ys := x :: xs) ho (by simp) (by simp; omega) fun h' ho' hs => wpAny_bind (dq_maxlen (s := { s with heap := h' }) ho' ?_))
  exact wpAny_pure (wpAny_pure (h h' ho' hs))

theorem dq_pop {x : Value} {Q : Value → Shared → Prop} (ho : s.heap.get? q = some (dqO st (xs ++ [x]))) (hz : xs.length ≤ sizeLine)
    (h : ∀ h', h'.get? q = some (dqO (st + 1) xs) → Heap.SameBut q s.heap h' → Q x { s with heap := h' }) : wpAny (model prog w) A (call (.builtin "collections.deque.pop") [.ref q]) Q E s := by
  have hT : s.TypeIs (.ref q) "collections.deque" := ⟨_, ho, rfl⟩
  refine wpAny_call (codeAny_call_builtin slot_dq_pop.plain entry_dq_pop (slot_dq_pop.check _ _ _ _ _ _ _ _ hT (args_dq_pop _) ?_))
  unfold Builtin.«collections.deque.pop»
  show wpAny _ _ (Builtin.Deque.items (.ref q) >>= _) _ _ s
  refine wpAny_bind (dq_items ho ?_)
  have hb : (xs ++ [x]).toArray.back? = some x := by simp
  rw [hb]
  exact wpAny_bind (dq_change (ys := xs) ho (by simp) hz fun h' ho' hs => wpAny_pure (h h' ho' hs))

theorem dq_method {name : Str} {id : String} {pl : Sem Bool} {Q : Value × List Value → Shared → Prop} (slot : Slot "collections.deque" name id) (hty : typeOf (.builtin id) = pure (.type "method_descriptor"))
    (ho : s.heap.get? q = some (dqO st xs)) (h : Q (.builtin id, [.ref q]) s) : wpAny (model prog w) A (getMethod (.ref q) name pl) Q E s :=
  getMethod_builtin ⟨_, ho, rfl⟩ plainAttrs_dq slot hty (fun a e => by cases e; exact ⟨_, ho, rfl⟩) h
end
end
end Mine
namespace Mine
section
open PySem PySem.W PySem.Calls PyProof.Rows
set_option maxRecDepth 100000
theorem hasDict_dq : typeHasDict (.type "collections.deque") = false := by decide +kernel
theorem kind_dq_init : builtinKind "collections.deque.__init__" = some .slot := by kernel_rfl
theorem args_dq_init (a : Value) : argsOk "collections.deque.__init__" ⟨[a], []⟩ := by unfold argsOk; kernel_rfl
section
variable {prog : Program} {w : World} {A : Around} {E : Value → Shared → Prop} {s : Shared}

theorem dqNew {Q : Value → Shared → Prop} (h : Q (.ref s.heap.objs.size) { s with heap := s.heap.push (dqO 0 []) }) :
    wpAny (model prog w) A (Builtin.Deque.new (.type "collections.deque") #[] none) Q E s := by
  unfold Builtin.Deque.new
  rw [if_neg (by decide)]
  dsimp only
  rw [hasDict_dq, if_neg Bool.false_ne_true]
  refine wpAny_bind (wpAny_pure ?_)
  exact wpAny_newObj_type h

theorem code_dq_new {Q₁ : Value → Shared → Prop} (h : Q₁ (.ref s.heap.objs.size) { s with heap := s.heap.push (dqO 0 []) }) :
    codeAny (model prog w) A (.call (.builtin "collections.deque.__new__") ⟨[.type "collections.deque"], []⟩) (wants Q₁ E) s := by
  refine codeAny_of_tree ?_
  show wpAny _ A.in1 (do checkBuiltinCall "collections.deque.__new__" ⟨[.type "collections.deque"], []⟩; again (.builtin "collections.deque.__new__" ⟨[.type "collections.deque"], []⟩)) _ _ s
  refine wpAny_bind (wpAny_of_eq newCall_dq (wpAny_pure ⟨plainId_quiet plain_dq_new _, codeAny_builtin entry_dq_new ?_⟩))
  rw [Around.under_plainId plain_dq_new _]
  unfold Builtin.«collections.deque.__new__» Builtin.Deque.newArgs
  have hsub := sub_dq
  obtain ⟨hp, g, d, tk, os⟩ := s
  dsimp only
  wp_walk
  refine wpAny_of_eq sub_dq ?_
  rw [if_neg (by decide)]
  refine wpAny_pure ?_
  dsimp only
  exact wpAny_bind (dqNew (wpAny_pure h))

theorem dq_init_body {q : Addr} {Q : Fin → Shared → Prop} (ho : s.heap.get? q = some (dqO 0 []))
    (h : ∀ h', h'.get? q = some (dqO 0 []) → Heap.SameBut q s.heap h' → Q (.done (.ret .none)) { s with heap := h' }) : wpAny (model prog w) A (Builtin.«collections.deque.__init__» ⟨[.ref q], []⟩) Q E s := by
  unfold Builtin.«collections.deque.__init__»
  show wpAny _ _ (setField (.ref q) 0 .none >>= fun _ => Builtin.Deque.clear (.ref q) >>= fun _ => ret .none) _ _ _
  refine wpAny_bind (wpAny_setField ho rfl (by decide) ?_)
  have ho' : (s.heap.update q (Obj.mapFields (·.setIfInBounds 0 .none))).get? q = some (dqO 0 []) := by
    rw [Heap.get?_update_self _ ho rfl]; rfl
  unfold Builtin.Deque.clear
  refine wpAny_bind (wpAny_bind (dq_items (s := { s with heap := s.heap.update q (Obj.mapFields (·.setIfInBounds 0 .none)) }) ho' ?_))
  exact wpAny_pure (wpAny_pure (h _ ho' (Heap.SameBut.update ..)))

set_option maxHeartbeats 1000000 in
theorem call_dq {Q : Value → Shared → Prop} (h : ∀ h', h'.get? s.heap.objs.size = some (dqO 0 []) → (∀ b o, s.heap.get? b = some o → h'.get? b = some o) → Heap.SameBut s.heap.objs.size (s.heap.push (dqO 0 [])) h' → Q (.ref s.heap.objs.size) { s with heap := h' }) :
    wpAny (model prog w) A (call (.type "collections.deque") []) Q E s := by
  obtain ⟨c, tl, hmro⟩ := called_dq.mro
  have hmade := called_dq.made
  have hsub := called_dq.sub
  refine wpAny_call (codeAny_of_tree ?_)
  show wpAny _ _ (callAny (.type "collections.deque") _) _ _ _
  refine wpAny_pure ⟨Code.quiet_builtin _ (by decide +kernel), codeAny_builtin PySem.F.entry_type_call ?_⟩
  rw [Around.under_plain (weight_type_call_type "collections.deque" [] []) rfl]
  have h1 := called_dq.notType
  have h2 := called_dq.canCreate
  have hct := typeCall_dq
  repeat (any_goals (first | assumption | wp_step))
  refine codeAny_mono (code_dq_new (E := E) (Q₁ := fun obj s₁ => obj = .ref s.heap.objs.size ∧ s₁ = { s with heap := s.heap.push (dqO 0 []) }) ⟨rfl, rfl⟩) fun r s₁ hr => ?_
  cases r with
  | error e => exact hr
  | ok fl =>
    cases fl with
    | ret obj =>
      obtain ⟨rfl, rfl⟩ := hr
      have hS : (s.heap.push (dqO 0 [])).get? s.heap.objs.size = some (dqO 0 []) := Heap.get?_push_size _ rfl
      have hT : Shared.TypeIs { s with heap := s.heap.push (dqO 0 []) } (.ref s.heap.objs.size) "collections.deque" := ⟨_, hS, rfl⟩
      have hli := called_dq.init.lookup
      have hbi := called_dq.init.bind (.ref s.heap.objs.size)
      repeat (any_goals (first | assumption | wp_step))
      refine codeAny_mono (codeAny_call_builtin (R := wants (fun r s₂ => r = .none ∧ Q (.ref s.heap.objs.size) s₂) E) slot_dq_init.plain entry_dq_init (slot_dq_init.check _ _ _ _ _ _ _ _ hT (args_dq_init _) ?_)) fun r₂ s₂ hr₂ => ?_
      · exact dq_init_body hS fun h' e1 e2 => ⟨rfl, h h' e1 (fun b o hb => (e2.2 b (Nat.ne_of_lt (Heap.lt_size hb))).trans (Heap.get?_push_of_some _ hb)) e2⟩
      · cases r₂ with
        | error e => exact hr₂
        | ok fl₂ =>
          cases fl₂ with
          | ret r =>
            obtain ⟨rfl, hq⟩ := hr₂
            repeat (any_goals (first | assumption | wp_step))
          | _ => exact hr₂.elim
    | _ => exact hr.elim
end
end
end Mine
namespace Mine
section
open PySem PySem.W PySem.Calls PyProof.Rows
set_option maxRecDepth 100000
section
variable {prog : Program} {w : World} {A : Around} {E : Value → Shared → Prop} {s : Shared} {h₀ : Heap} {L q : Addr} {m : Str → Option Value} {news news' : List (Addr × Obj)} {st : Int} {xs : List Value}
theorem dq_method_K {name : Str} {id : String} {pl : Sem Bool} {Q : Value × List Value → Shared → Prop} (N : News h₀ L s.heap news) (hm : (q, dqO st xs) ∈ news) (slot : Slot "collections.deque" name id) (hty : typeOf (.builtin id) = pure (.type "method_descriptor"))
    (h : Q (.builtin id, [.ref q]) s) : wpAny (model prog w) A (getMethod (.ref q) name pl) Q E s := dq_method slot hty (N _ hm).1 h
theorem dq_clear_K {Q : Value → Shared → Prop} (F : Fr h₀ L s.heap m) (N : News h₀ L s.heap news) (U : Upd q (dqO st xs) (dqO (clr st xs) []) news news')
    (h : ∀ h', Fr h₀ L h' m → News h₀ L h' news' → Q .none { s with heap := h' }) : wpAny (model prog w) A (call (.builtin "collections.deque.clear") [.ref q]) Q E s := by
  obtain ⟨pre, post, rfl, rfl, a, b⟩ := U.split
  have z := N (q, dqO st xs) (List.mem_append.mpr (.inr (.head _)))
  exact dq_clear z.1 fun h' ho' hs => h h' (F.change hs z.2.1 z.2.2) (news_set N a b hs ho')
theorem dq_appendleft_K {x : Value} {Q : Value → Shared → Prop} (F : Fr h₀ L s.heap m) (N : News h₀ L s.heap news) (U : Upd q (dqO st xs) (dqO (st + 1) (x :: xs)) news news') (hz : xs.length < sizeLine)
    (h : ∀ h', Fr h₀ L h' m → News h₀ L h' news' → Q .none { s with heap := h' }) : wpAny (model prog w) A (call (.builtin "collections.deque.appendleft") [.ref q, x]) Q E s := by
  obtain ⟨pre, post, rfl, rfl, a, b⟩ := U.split
  have z := N (q, dqO st xs) (List.mem_append.mpr (.inr (.head _)))
  exact dq_appendleft z.1 hz fun h' ho' hs => h h' (F.change hs z.2.1 z.2.2) (news_set N a b hs ho')
theorem dq_pop_K {x : Value} {Q : Value → Shared → Prop} (F : Fr h₀ L s.heap m) (N : News h₀ L s.heap news) (U : Upd q (dqO st (xs ++ [x])) (dqO (st + 1) xs) news news') (hz : xs.length ≤ sizeLine)
    (h : ∀ h', Fr h₀ L h' m → News h₀ L h' news' → Q x { s with heap := h' }) : wpAny (model prog w) A (call (.builtin "collections.deque.pop") [.ref q]) Q E s := by
  obtain ⟨pre, post, rfl, rfl, a, b⟩ := U.split
  have z := N (q, dqO st (xs ++ [x])) (List.mem_append.mpr (.inr (.head _)))
  exact dq_pop z.1 hz fun h' ho' hs => h h' (F.change hs z.2.1 z.2.2) (news_set N a b hs ho')
theorem dq_new_K {Q : Value → Shared → Prop} (F : Fr h₀ L s.heap m) (N : News h₀ L s.heap news)
    (h : ∀ q h', Fr h₀ L h' m → News h₀ L h' ((q, dqO 0 []) :: news) → (∀ p ∈ news, p.1 < q) → Q (.ref q) { s with heap := h' }) : wpAny (model prog w) A (call (.type "collections.deque") []) Q E s := by
  refine call_dq fun h' ho' hk hs => ?_
  have N₁ := N.push F (dqO 0 [])
  have F₁ := F.push (dqO 0 [])
  have z := N₁ (s.heap.objs.size, dqO 0 []) (.head _)
  refine h _ h' (F₁.change hs z.2.1 z.2.2) ?_ fun p hp => Heap.lt_size (N p hp).1
  intro p hp
  rcases List.mem_cons.mp hp with rfl | hp
  · exact ⟨ho', z.2⟩
  · exact ⟨hk _ _ (N p hp).1, (N p hp).2⟩
end
end
end Mine
namespace Mine
section
open PySem PySem.W PySem.Calls PyProof.Rows
abbrev Pr := Array UInt8 × Array UInt8
def psz (p : Pr) : Int := 32 + (p.1.size : Int) + (p.2.size : Int)
def tot (ps : List Pr) : Int := (ps.map psz).sum
def fitN (mx : Int) : Nat → List Pr → List Pr
  | 0, ps => ps
  | n + 1, ps => if mx < tot ps then fitN mx n ps.dropLast else ps
def fit (mx : Int) (ps : List Pr) : List Pr := fitN mx ps.length ps
theorem psz_pos (p : Pr) : 32 ≤ psz p := by unfold psz; omega
theorem tot_nil : tot [] = 0 := rfl
theorem tot_cons (p : Pr) (ps : List Pr) : tot (p :: ps) = psz p + tot ps := by simp [tot]
theorem tot_snoc (p : Pr) (ps : List Pr) : tot (ps ++ [p]) = tot ps + psz p := by simp [tot]
theorem tot_pos : ∀ ps : List Pr, 0 ≤ tot ps
  | [] => by simp [tot]
  | p :: ps => by rw [tot_cons]; have := psz_pos p; have := tot_pos ps; omega
theorem tot_le_dropLast (ps : List Pr) : tot ps.dropLast ≤ tot ps := by
  rcases List.eq_nil_or_concat ps with rfl | ⟨l, b, rfl⟩
  · simp
  · simp only [List.concat_eq_append, List.dropLast_concat]; rw [tot_snoc]; have := psz_pos b; omega
theorem fit_stop {mx : Int} {ps : List Pr} (h : ¬ mx < tot ps) : fit mx ps = ps := by
  unfold fit; cases ps.length <;> simp [fitN, h]
theorem fit_step {mx : Int} {ps : List Pr} {p : Pr} (h : mx < tot (ps ++ [p])) : fit mx (ps ++ [p]) = fit mx ps := by
  unfold fit; simp [fitN, h]
theorem fit_le {mx : Int} (hm : 0 ≤ mx) : ∀ (n : Nat) (ps : List Pr), ps.length = n → tot (fit mx ps) ≤ mx
  | 0, ps, h => by
    have : ps = [] := List.length_eq_zero_iff.mp h
    subst this; exact hm
  | n + 1, ps, h => by
    rcases List.eq_nil_or_concat ps with rfl | ⟨l, b, rfl⟩
    · cases h
    · rw [List.concat_eq_append] at *
      by_cases hc : mx < tot (l ++ [b])
      · rw [fit_step hc]; exact fit_le hm n l (by simpa using h)
      · rw [fit_stop hc]; omega
theorem fit_pre {mx : Int} : ∀ (n : Nat) (ps : List Pr), ps.length = n → ∃ r, ps = fit mx ps ++ r
  | 0, ps, h => by
    have : ps = [] := List.length_eq_zero_iff.mp h
    subst this; exact ⟨[], rfl⟩
  | n + 1, ps, h => by
    rcases List.eq_nil_or_concat ps with rfl | ⟨l, b, rfl⟩
    · cases h
    · rw [List.concat_eq_append] at *
      by_cases hc : mx < tot (l ++ [b])
      · rw [fit_step hc]
        obtain ⟨r, e⟩ := fit_pre (mx := mx) n l (by simpa using h)
        refine ⟨r ++ [b], ?_⟩
        rw [← List.append_assoc, ← e]
      · rw [fit_stop hc]; exact ⟨[], by simp⟩
/-- a pair larger than the whole: nothing stays -/
theorem fit_over {mx : Int} {p : Pr} {ps : List Pr} (hm : 0 ≤ mx) (h : mx < psz p) : fit mx (p :: ps) = [] := by
  obtain ⟨r, e⟩ := fit_pre (mx := mx) _ (p :: ps) rfl
  have hl := fit_le hm _ (p :: ps) rfl
  cases hf : fit mx (p :: ps) with
  | nil => rfl
  | cons a l =>
    rw [hf] at e hl
    injection e with e1 e2
    subst e1
    rw [tot_cons] at hl
    have := tot_pos l
    omega
theorem fit_zero {mx : Int} {ps : List Pr} (h : mx = 0) : fit mx ps = [] := by
  have hl := fit_le (by omega : 0 ≤ mx) _ ps rfl
  cases hf : fit mx ps with
  | nil => rfl
  | cons a l =>
    rw [hf, tot_cons] at hl
    have := tot_pos l; have := psz_pos a
    omega
theorem fit_len (mx : Int) (ps : List Pr) : (fit mx ps).length ≤ ps.length := by
  obtain ⟨r, e⟩ := fit_pre (mx := mx) _ ps rfl
  have := congrArg List.length e
  rw [List.length_append] at this; omega
theorem fit_sub {mx : Int} {ps : List Pr} : ∀ p ∈ fit mx ps, p ∈ ps := by
  obtain ⟨r, e⟩ := fit_pre (mx := mx) _ ps rfl
  intro p hp
  rw [e]; exact List.mem_append_left _ hp

abbrev tupB (a : Array UInt8) (t : Tok) (b : Array UInt8) (t' : Tok) : Obj := { cls := .type "tuple", data := .seq #[.bytes a t, .bytes b t'] }
def PairAt (tl : List (Addr × Obj)) (x : Value) (p : Pr) : Prop := ∃ D t t', x = .ref D ∧ (D, tupB p.1 t p.2 t') ∈ tl
def Pairs (tl : List (Addr × Obj)) : List Value → List Pr → Prop
  | [], [] => True
  | x :: xs, p :: ps => PairAt tl x p ∧ Pairs tl xs ps
  | _, _ => False
theorem Pairs.mono {tl tl' : List (Addr × Obj)} (hs : ∀ p ∈ tl, p ∈ tl') : ∀ {xs : List Value} {ps : List Pr}, Pairs tl xs ps → Pairs tl' xs ps
  | [], [], _ => trivial
  | _ :: _, _ :: _, ⟨⟨D, t, t', e, h⟩, r⟩ => ⟨⟨D, t, t', e, hs _ h⟩, Pairs.mono hs r⟩
  | [], _ :: _, h => h.elim
  | _ :: _, [], h => h.elim
theorem Pairs.len {tl : List (Addr × Obj)} : ∀ {xs : List Value} {ps : List Pr}, Pairs tl xs ps → xs.length = ps.length
  | [], [], _ => rfl
  | _ :: _, _ :: _, ⟨_, r⟩ => congrArg (· + 1) (Pairs.len r)
  | [], _ :: _, h => h.elim
  | _ :: _, [], h => h.elim
theorem Pairs.append {tl : List (Addr × Obj)} : ∀ {xs ys : List Value} {ps qs : List Pr}, Pairs tl xs ps → Pairs tl ys qs → Pairs tl (xs ++ ys) (ps ++ qs)
  | [], _, [], _, _, h => h
  | _ :: _, _, _ :: _, _, ⟨a, r⟩, h => ⟨a, Pairs.append r h⟩
  | [], _, _ :: _, _, h, _ => h.elim
  | _ :: _, _, [], _, h, _ => h.elim
theorem Pairs.snoc {tl : List (Addr × Obj)} : ∀ {xs : List Value} {ps : List Pr}, Pairs tl xs ps → xs ≠ [] →
    ∃ xs' x ps' p, xs = xs' ++ [x] ∧ ps = ps' ++ [p] ∧ Pairs tl xs' ps' ∧ PairAt tl x p
  | [], _, _, h => absurd rfl h
  | [x], [p], ⟨a, _⟩, _ => ⟨[], x, [], p, rfl, rfl, trivial, a⟩
  | [_], _ :: _ :: _, ⟨_, r⟩, _ => r.elim
  | _ :: _, [], h, _ => h.elim
  | x :: y :: xs, p :: ps, ⟨a, r⟩, _ => by
    obtain ⟨xs', z, ps', q, e1, e2, h1, h2⟩ := Pairs.snoc r (List.cons_ne_nil _ _)
    exact ⟨x :: xs', z, p :: ps', q, by rw [e1]; rfl, by rw [e2]; rfl, ⟨a, h1⟩, h2⟩
theorem Pairs.get {tl : List (Addr × Obj)} : ∀ {xs : List Value} {ps : List Pr} {i : Nat} {x : Value}, Pairs tl xs ps → xs[i]? = some x → ∃ p, ps[i]? = some p ∧ PairAt tl x p
  | [], [], _, _, _, h => by simp at h
  | _ :: _, _ :: _, 0, _, ⟨a, _⟩, h => ⟨_, rfl, (Option.some.inj h) ▸ a⟩
  | _ :: _, _ :: _, i + 1, _, ⟨_, r⟩, h => Pairs.get (i := i) r (by simpa using h)
  | [], _ :: _, _, _, h, _ => h.elim
  | _ :: _, [], _, _, h, _ => h.elim
theorem Pairs.take {tl : List (Addr × Obj)} : ∀ {xs : List Value} {ps : List Pr} (n : Nat), Pairs tl xs ps → Pairs tl (xs.take n) (ps.take n)
  | [], [], n, _ => by simp [Pairs]
  | _ :: _, _ :: _, 0, _ => trivial
  | _ :: _, _ :: _, n + 1, ⟨a, r⟩ => ⟨a, Pairs.take n r⟩
  | [], _ :: _, _, h => h.elim
  | _ :: _, [], _, h => h.elim
def Hold (p : Prop) : Prop := p
theorem Hold.get {p : Prop} (h : Hold p) : p := h
end
end Mine
namespace Mine
section
open PySem PySem.W PySem.Calls PyProof.Rows
set_option maxRecDepth 100000
set_option maxHeartbeats 4000000
local macro_rules | `(tactic| walk_at "getMethod ref") => `(tactic| (k_here; (with_reducible show wpAny _ _ (getMethod (Value.ref _) (PySem.Str.ofString "clear") _) _ _ _); k_dflt (refine' dq_method_K ?N ?m slot_dq_clear type_dq_clear ?_; (case N => k_asm); (case m => k_mem); k_whole)))
local macro_rules | `(tactic| walk_at "getMethod ref") => `(tactic| (k_here; (with_reducible show wpAny _ _ (getMethod (Value.ref _) (PySem.Str.ofString "appendleft") _) _ _ _); k_dflt (refine' dq_method_K ?N ?m slot_dq_appendleft type_dq_appendleft ?_; (case N => k_asm); (case m => k_mem); k_whole)))
local macro_rules | `(tactic| walk_at "getMethod ref") => `(tactic| (k_here; (with_reducible show wpAny _ _ (getMethod (Value.ref _) (PySem.Str.ofString "pop") _) _ _ _); k_dflt (refine' dq_method_K ?N ?m slot_dq_pop type_dq_pop ?_; (case N => k_asm); (case m => k_mem); k_whole)))
local macro_rules | `(tactic| walk_at "call builtin:collections.deque.clear") => `(tactic| (k_here; k_dflt (refine' dq_clear_K ?k1 ?k2 ?k3 ?_; (case k1 => k_asm); (case k2 => k_asm); (case k3 => k_upd); k_whole); intro h' F' N'; (try k_sweep)))
local macro_rules | `(tactic| walk_at "call builtin:collections.deque.appendleft") => `(tactic| (k_here; k_dflt (refine' dq_appendleft_K ?k1 ?k2 ?k3 ?z ?_; (case k1 => k_asm); (case k2 => k_asm); (case k3 => k_upd); (case z => assumption); k_whole); intro h' F' N'; (try k_sweep)))
local macro_rules | `(tactic| walk_at "call builtin:collections.deque.pop") => `(tactic| (k_here; k_dflt (refine' dq_pop_K ?k1 ?k2 ?k3 ?z ?_; (case k1 => k_asm); (case k2 => k_asm); (case k3 => k_upd); (case z => assumption); k_whole); intro h' F' N'; (try k_sweep)))
local macro_rules | `(tactic| walk_at "call builtin:len") => `(tactic| (k_here; (with_reducible show wpAny _ _ (call (Value.builtin "len") [Value.bytes _ _]) _ _ _); (refine len_bytes (by omega) ?_)))
local macro_rules | `(tactic| k_clsL) => `(tactic| first | with_reducible assumption | (refine List.mem_cons_of_mem _ ?_; k_clsL))
local macro_rules | `(tactic| k_mem) => `(tactic| k_clsL)
set_option hygiene false in
local macro_rules | `(tactic| walk_at "own:enter") => `(tactic| (
  refine' code_def B0 F X N Tp rfl hf hke ?k6 ?k7 ?k8 ?k9 ?kB ?_ ?c2 ?c3 ?c4 ?c5
  (case k6 => k_is)
  (case k7 => k_is)
  (case k8 => k_room)
  (case k9 => exact BindsTo.of_eq rfl)
  (case c5 => decide)
  (case kB => exact locs rfl)
  (case c2 => exact rfl)
  (case c3 => exact rfl)
  (case c4 => exact rfl)
  intro g' L' h' FG' F' N' B' X' T'
  (try dsimp only)
  (try k_lift B')
  (try k_fold)))
local macro_rules | `(tactic| walk_at "binaryOp Mult bytes int") => `(tactic| (k_here; k_dflt (refine' bytes_mul_any (b := [118]) ?b ?lo ?hi ?ln ?_; (case b => simp); (case lo => omega); (case hi => omega); (case ln => decide); k_whole); intro t' k'; (try dsimp only)))
local macro_rules | `(tactic| walk_at "call type:collections.deque") => `(tactic| (k_here; k_dflt (refine' dq_new_K ?k1 ?k2 ?_; (case k1 => k_asm); (case k2 => k_asm); k_whole); intro q' h' F' N' l1; (try k_lt l1); (try k_sweep)))
theorem mform2 {m : Str → Option Value} {a b : Str} {va vb : Value} (ha : m a = some va) (hb : m b = some vb) : m = fun y => if y = a then some va else if y = b then some vb else m y := by
  funext y
  by_cases h : y = a
  · subst h; simp [ha]
  · by_cases h' : y = b
    · subst h'; simp [h, hb]
    · simp [h, h']
section
variable {w : World} {A A₀ : Around} {E : Value → Shared → Prop} {s : Shared} {h₀ base : Heap} {L : Addr} {m mg mb : Str → Option Value} {env env2 : Env} {outer : List Env} {mean : ExcName → Option Value}
abbrev tabD (P : Params) (q : Addr) (mx cs : Int) (tm tc t1 t2 t3 t4 : Tok) (rz : Bool) : Obj := dictOf [sk P "_maxsize" t1 (.int mx tm), sk P "_current_size" t2 (.int cs tc), sk P "resized" t3 (.bool rz), sk P "dynamic_entries" t4 (.ref q)] 4
def ShJ (P : Params) (T d q : Addr) (mx cs₀ : Int) (tm tc t1 t2 t3 t4 : Tok) (rz : Bool) (tl : List (Addr × Obj)) (ps₀ : List Pr) (n : Nat) (m : Str → Option Value) (news : List (Addr × Obj)) : Prop :=
  ∃ (st : Int) (xs : List Value) (ps : List Pr) (u : Str → Option Value) (tk : Tok), news = (T, instObj 219 d) :: (d, tabD P q mx cs₀ tm tc t1 t2 t3 t4 rz) :: (q, dqO st xs) :: tl ∧ Pairs tl xs ps ∧ ps.length = n ∧ fit mx ps = fit mx ps₀ ∧ xs.length ≤ sizeLine ∧ (∀ p ∈ ps, p.1.size ≤ 100 ∧ p.2.size ≤ 100) ∧
    m = fun y => if y = Str.ofString "cursize" then some (.int (tot ps) tk) else if y = Str.ofString "self" then some (.ref T) else u y
set_option hygiene false in
local macro_rules | `(tactic| walk_at "exec While Compare cons nil") => `(tactic| (k_here; k_dflt (refine' While_inv2 (ShJ w.params T d q mx cs₀ tm tc t1 t2 t3 t4 rz tl ps₀) (n₀ := ps₀.length) ?F ?N (Hold.get ?J) (Hold.get ?turn); (case F => k_asm); (case N => k_asm); k_whole)))
set_option pp.deepTerms false in
set_option pp.maxSteps 2000 in
theorem shrink_ctr {T d q : Addr} {mx cs₀ : Int} {tm tc t1 t2 t3 t4 : Tok} {rz : Bool} {st : Int} {xs : List Value} {ps₀ : List Pr} {tl : List (Addr × Obj)} {R : Result → Shared → Prop}
    (B0 : Below ((callerA.deeper env2).in1.in1) base [env2] h₀) (F : Fr h₀ L s.heap m) (X : (KK w.params).In h₀) (Tp : Top qv (looseW qv qloose) mean mg mb h₀) (hf : env.frame = some L) (hke : env.scope.kind = .function)
    (N : News h₀ L s.heap ((T, instObj 219 d) :: (d, tabD w.params q mx cs₀ tm tc t1 t2 t3 t4 rz) :: (q, dqO st xs) :: tl))
    (ho : OwnOff tl [T, d, q]) (h1 : @Ne Nat d T) (h2 : @Ne Nat T q) (h3 : @Ne Nat d q) (hxs : xs.length ≤ sizeLine)
    (hmx : 0 ≤ mx) (hps : Pairs tl xs ps₀) (hsz : ∀ p ∈ ps₀, p.1.size ≤ 100 ∧ p.2.size ≤ 100) (hcs : cs₀ = tot ps₀)
    (hR : ∀ h' tk tc' st' xs', Fr h₀ L h' m → News h₀ L h' ((T, instObj 219 d) :: (d, tabD w.params q mx (tot (fit mx ps₀)) tm tc' t1 t2 t3 t4 rz) :: (q, dqO st' xs') :: tl) → Pairs tl xs' (fit mx ps₀) → xs'.length ≤ sizeLine →
      R (.ok (.ret .none)) { s with heap := h', toks := tk }) : codeAny (model pw w) (((callerA.deeper env2).in1.in1).deeper env) (.call (.ref 216) ⟨[.ref T], []⟩) R s := by
  have law : PySem.Challenge.rw_ds0003_01 = PySem.Challenge.rw_ds0003_01 ∧ KK = KK := ⟨rfl, rfl⟩
  revert law
  k_fill
  intro law
  walk_at "own:enter"
  k_steps
  case J => show ShJ _ _ _ _ _ _ _ _ _ _ _ _ _ _ _ _ _ _; exact ⟨st, xs, ps₀, _, tc, rfl, hps, rfl, rfl, hxs, hsz, by rw [← hcs]; exact mform2 rfl rfl⟩
  case turn =>
    unfold Hold
    rintro n m₁ news₁ h₁ tk₁ F₁ N₁ ⟨st1, xs1, ps1, u, tk, rfl, hp1, rfl, hfit, hl1, hs1, rfl⟩
    rcases Decidable.em (xs1 = []) with rfl | hne
    · have : ps1 = [] := List.length_eq_zero_iff.mp hp1.len.symm
      subst this
      have e0 : fit mx ps₀ = [] := hfit.symm.trans (fit_stop (by rw [tot_nil]; omega))
      rw [e0] at hR
      simp only [tot_nil] at F₁ hR
      k_steps
      exact hR _ _ _ _ [] (by assumption) (by assumption) trivial hl1
    · obtain ⟨xs2, x, ps2, pr, rfl, rfl, hp2, D, tD, tD', rfl, hD⟩ := hp1.snoc hne
      have hpr := hs1 pr (by simp)
      obtain ⟨hpr1, hpr2⟩ := hpr
      have hl2 : xs2.length ≤ sizeLine := by simp at hl1; omega
      k_steps
      · have e1 : tot ps2 = tot (ps2 ++ [pr]) - (32 + (pr.1.size : Int) + (pr.2.size : Int)) := by rw [tot_snoc]; unfold psz; omega
        exact ⟨_, _, _, _, ps2.length, rfl, by assumption, by assumption, by simp, _, xs2, ps2, _, _, rfl, hp2, rfl, (fit_step (by assumption)).symm.trans hfit, hl2, (fun p hp => hs1 p (by simp [hp])), by rw [e1]; exact mform2 rfl rfl⟩
      · have e0 : fit mx ps₀ = ps2 ++ [pr] := hfit.symm.trans (fit_stop (by omega))
        rw [e0] at hR
        exact hR _ _ _ _ _ (by assumption) (by assumption) hp1 hl1
end
end
end Mine
namespace Mine
section
open PySem PySem.W PySem.Calls PyProof.Rows
set_option maxRecDepth 100000
set_option maxHeartbeats 4000000
local macro_rules | `(tactic| walk_at "own:pad0") => `(tactic| skip)
local macro_rules | `(tactic| walk_at "own:pad1") => `(tactic| skip)
local macro_rules | `(tactic| walk_at "getMethod ref") => `(tactic| (k_here; (with_reducible show wpAny _ _ (getMethod (Value.ref _) (PySem.Str.ofString "clear") _) _ _ _); k_dflt (refine' dq_method_K ?N ?m slot_dq_clear type_dq_clear ?_; (case N => k_asm); (case m => k_mem); k_whole)))
local macro_rules | `(tactic| walk_at "getMethod ref") => `(tactic| (k_here; (with_reducible show wpAny _ _ (getMethod (Value.ref _) (PySem.Str.ofString "appendleft") _) _ _ _); k_dflt (refine' dq_method_K ?N ?m slot_dq_appendleft type_dq_appendleft ?_; (case N => k_asm); (case m => k_mem); k_whole)))
local macro_rules | `(tactic| walk_at "getMethod ref") => `(tactic| (k_here; (with_reducible show wpAny _ _ (getMethod (Value.ref _) (PySem.Str.ofString "pop") _) _ _ _); k_dflt (refine' dq_method_K ?N ?m slot_dq_pop type_dq_pop ?_; (case N => k_asm); (case m => k_mem); k_whole)))
local macro_rules | `(tactic| walk_at "call builtin:collections.deque.clear") => `(tactic| (k_here; k_dflt (refine' dq_clear_K ?k1 ?k2 ?k3 ?_; (case k1 => k_asm); (case k2 => k_asm); (case k3 => k_upd); k_whole); intro h' F' N'; (try k_sweep)))
local macro_rules | `(tactic| walk_at "call builtin:collections.deque.appendleft") => `(tactic| (k_here; k_dflt (refine' dq_appendleft_K ?k1 ?k2 ?k3 ?z ?_; (case k1 => k_asm); (case k2 => k_asm); (case k3 => k_upd); (case z => assumption); k_whole); intro h' F' N'; (try k_sweep)))
local macro_rules | `(tactic| walk_at "call builtin:collections.deque.pop") => `(tactic| (k_here; k_dflt (refine' dq_pop_K ?k1 ?k2 ?k3 ?z ?_; (case k1 => k_asm); (case k2 => k_asm); (case k3 => k_upd); (case z => assumption); k_whole); intro h' F' N'; (try k_sweep)))
local macro_rules | `(tactic| walk_at "call builtin:len") => `(tactic| (k_here; (with_reducible show wpAny _ _ (call (Value.builtin "len") [Value.bytes _ _]) _ _ _); (refine len_bytes (by omega) ?_)))
local macro_rules | `(tactic| k_clsL) => `(tactic| first | with_reducible assumption | (refine List.mem_cons_of_mem _ ?_; k_clsL))
local macro_rules | `(tactic| k_mem) => `(tactic| k_clsL)
set_option hygiene false in
local macro_rules | `(tactic| walk_at "own:enter") => `(tactic| (
  refine' code_def B0 F X N Tp rfl hf hke ?k6 ?k7 ?k8 ?k9 ?kB ?_ ?c2 ?c3 ?c4 ?c5
  (case k6 => k_is)
  (case k7 => k_is)
  (case k8 => k_room)
  (case k9 => exact BindsTo.of_eq rfl)
  (case c5 => decide)
  (case kB => exact locs rfl)
  (case c2 => exact rfl)
  (case c3 => exact rfl)
  (case c4 => exact rfl)
  intro g' L' h' FG' F' N' B' X' T'
  (try dsimp only)
  (try k_lift B')
  (try k_fold)))
local macro_rules | `(tactic| walk_at "binaryOp Mult bytes int") => `(tactic| (k_here; k_dflt (refine' bytes_mul_any (b := [118]) ?b ?lo ?hi ?ln ?_; (case b => simp); (case lo => omega); (case hi => omega); (case ln => decide); k_whole); intro t' k'; (try dsimp only)))
local macro_rules | `(tactic| walk_at "call type:collections.deque") => `(tactic| (k_here; k_dflt (refine' dq_new_K ?k1 ?k2 ?_; (case k1 => k_asm); (case k2 => k_asm); k_whole); intro q' h' F' N' l1; (try k_lt l1); (try k_sweep)))
section
variable {w : World} {A A₀ : Around} {E : Value → Shared → Prop} {s : Shared} {h₀ base : Heap} {L : Addr} {m mg mb : Str → Option Value} {env env2 : Env} {outer : List Env} {mean : ExcName → Option Value}
theorem allLt_to {d : Addr} {l : List (Addr × Obj)} (h : AllLt d l) : ∀ p ∈ l, p.1 < d := by
  induction l with
  | nil => intro p hp; cases hp
  | cons a l ih =>
    intro p hp
    rcases List.mem_cons.mp hp with rfl | hp
    · exact h.1
    · exact ih h.2 p hp
theorem News.sub' {h : Heap} {l l' : List (Addr × Obj)} (N : News h₀ L h l) (hs : ∀ p ∈ l', p ∈ l) : News h₀ L h l' := fun p hp => N p (hs p hp)
theorem News.rot4 {h : Heap} {x a b c : Addr × Obj} {tl : List (Addr × Obj)} (N : News h₀ L h (x :: a :: b :: c :: tl)) : News h₀ L h (a :: b :: c :: x :: tl) := by
  refine News.sub' N ?_
  intro p hp
  simp only [List.mem_cons] at hp ⊢
  rcases hp with h | h | h | h | h
  · exact .inr (.inl h)
  · exact .inr (.inr (.inl h))
  · exact .inr (.inr (.inr (.inl h)))
  · exact .inl h
  · exact .inr (.inr (.inr (.inr h)))
local macro_rules | `(tactic| walk_at "call ref") => `(tactic| (k_here; (with_reducible show wpAny _ _ (call (Value.ref 216) _ _) _ _ _); k_dflt (refine' wpAny_call (Hold.get ?shr); k_whole)))
set_option pp.deepTerms false in
set_option pp.maxSteps 2000 in
theorem add_ctr {T d q : Addr} {mx : Int} {tm tc t1 t2 t3 t4 : Tok} {rz : Bool} {st : Int} {xs : List Value} {ps₀ : List Pr} {tl : List (Addr × Obj)} {n v : Array UInt8} {tn tv : Tok} {R : Result → Shared → Prop}
    (B0 : Below callerA base [] h₀) (F : Fr h₀ L s.heap m) (X : (KK w.params).In h₀) (Tp : Top qv (looseW qv qloose) mean mg mb h₀) (hf : env.frame = some L) (hke : env.scope.kind = .function)
    (N : News h₀ L s.heap ((T, instObj 219 d) :: (d, tabD w.params q mx (tot ps₀) tm tc t1 t2 t3 t4 rz) :: (q, dqO st xs) :: tl))
    (ho : OwnOff tl [T, d, q]) (h1 : @Ne Nat d T) (h2 : @Ne Nat T q) (h3 : @Ne Nat d q) (hxs : xs.length < sizeLine)
    (hmx : 0 ≤ mx) (hps : Pairs tl xs ps₀) (hsz : ∀ p ∈ ps₀, p.1.size ≤ 100 ∧ p.2.size ≤ 100) (hn : n.size ≤ 100) (hv : v.size ≤ 100)
    (hR : ∀ h' tk tc' st' xs' ex, Fr h₀ L h' m → News h₀ L h' ((T, instObj 219 d) :: (d, tabD w.params q mx (tot (fit mx ((n, v) :: ps₀))) tm tc' t1 t2 t3 t4 rz) :: (q, dqO st' xs') :: (ex ++ tl)) →
      (∀ p ∈ ex, p.1 ≠ T ∧ p.1 ≠ d ∧ p.1 ≠ q ∧ ∀ z ∈ tl, z.1 < p.1) → Pairs (ex ++ tl) xs' (fit mx ((n, v) :: ps₀)) → xs'.length ≤ sizeLine →
      R (.ok (.ret .none)) { s with heap := h', toks := tk }) : codeAny (model pw w) (callerA.deeper env) (.call (.ref 185) ⟨[.ref T, .bytes n tn, .bytes v tv], []⟩) R s := by
  have law : PySem.Challenge.rw_ds0003_01 = PySem.Challenge.rw_ds0003_01 ∧ KK = KK := ⟨rfl, rfl⟩
  revert law
  k_fill
  intro law
  walk_at "own:enter"
  k_steps
  · have e0 : fit mx ((n, v) :: ps₀) = [] := fit_over hmx (by unfold psz; dsimp only; omega)
    rw [e0, tot_nil] at hR
    rename Fr h₀ L _ _ => F5
    rename News h₀ L _ _ => N5
    exact hR _ _ _ _ [] [] F5 N5 (fun p hp => nomatch hp) trivial (Nat.zero_le _)
  case shr =>
    unfold Hold
    rename Fr g' L' _ _ => F5
    rename News g' L' _ _ => N5
    rename _ ∧ _ ∧ _ ∧ AllLt _ tl => l5
    obtain ⟨l5, l6, l7, l8⟩ := l5
    rename_i D5 _ _ _
    have e1 : tot ps₀ + (32 + (n.size : Int) + (v.size : Int)) = tot ((n, v) :: ps₀) := by rw [tot_cons]; unfold psz; dsimp only; omega
    refine codeAny_of_in1 (codeAny_of_in1 ?_)
    refine shrink_ctr (tl := (D5, tupB n tn v tv) :: tl) (ps₀ := (n, v) :: ps₀) (xs := .ref D5 :: xs) ⟨B'.stack, B'.stays, B'.frames⟩ F5 X' T' rfl rfl (News.rot4 N5) ?_ h1 h2 h3 ?_ hmx ?_ ?_ e1 ?_
    · intro p hp
      rcases List.mem_cons.mp hp with rfl | hp
      · intro b hb
        simp only [List.mem_cons, List.not_mem_nil, or_false] at hb
        rcases hb with rfl | rfl | rfl
        · exact Nat.ne_of_gt l5
        · exact Nat.ne_of_gt l6
        · exact Nat.ne_of_gt l7
      · exact ho p hp
    · exact hxs
    · exact ⟨⟨D5, tn, tv, rfl, List.mem_cons_self⟩, hps.mono fun p hp => List.mem_cons_of_mem _ hp⟩
    · intro p hp
      rcases List.mem_cons.mp hp with rfl | hp
      · exact ⟨hn, hv⟩
      · exact hsz p hp
    · intro h6 tk6 tc6 st6 xs6 F6 N6 hp6 hl6
      dsimp only
      k_steps
      refine hR _ _ _ _ xs6 [(D5, tupB n tn v tv)] (by assumption) (by assumption) ?_ hp6 hl6
      intro p hp
      rw [List.mem_singleton.mp hp]
      exact ⟨Nat.ne_of_gt l5, Nat.ne_of_gt l6, Nat.ne_of_gt l7, allLt_to l8⟩
end
end
end Mine
namespace Mine
section
open PySem PySem.W PySem.Calls PyProof.Rows
set_option maxRecDepth 100000
set_option maxHeartbeats 4000000
local macro_rules | `(tactic| walk_at "own:pad0") => `(tactic| skip)
local macro_rules | `(tactic| walk_at "own:pad1") => `(tactic| skip)
local macro_rules | `(tactic| walk_at "own:pad2") => `(tactic| skip)
local macro_rules | `(tactic| walk_at "getMethod ref") => `(tactic| (k_here; (with_reducible show wpAny _ _ (getMethod (Value.ref _) (PySem.Str.ofString "clear") _) _ _ _); k_dflt (refine' dq_method_K ?N ?m slot_dq_clear type_dq_clear ?_; (case N => k_asm); (case m => k_mem); k_whole)))
local macro_rules | `(tactic| walk_at "getMethod ref") => `(tactic| (k_here; (with_reducible show wpAny _ _ (getMethod (Value.ref _) (PySem.Str.ofString "appendleft") _) _ _ _); k_dflt (refine' dq_method_K ?N ?m slot_dq_appendleft type_dq_appendleft ?_; (case N => k_asm); (case m => k_mem); k_whole)))
local macro_rules | `(tactic| walk_at "getMethod ref") => `(tactic| (k_here; (with_reducible show wpAny _ _ (getMethod (Value.ref _) (PySem.Str.ofString "pop") _) _ _ _); k_dflt (refine' dq_method_K ?N ?m slot_dq_pop type_dq_pop ?_; (case N => k_asm); (case m => k_mem); k_whole)))
local macro_rules | `(tactic| walk_at "call builtin:collections.deque.clear") => `(tactic| (k_here; k_dflt (refine' dq_clear_K ?k1 ?k2 ?k3 ?_; (case k1 => k_asm); (case k2 => k_asm); (case k3 => k_upd); k_whole); intro h' F' N'; (try k_sweep)))
local macro_rules | `(tactic| walk_at "call builtin:collections.deque.appendleft") => `(tactic| (k_here; k_dflt (refine' dq_appendleft_K ?k1 ?k2 ?k3 ?z ?_; (case k1 => k_asm); (case k2 => k_asm); (case k3 => k_upd); (case z => assumption); k_whole); intro h' F' N'; (try k_sweep)))
local macro_rules | `(tactic| walk_at "call builtin:collections.deque.pop") => `(tactic| (k_here; k_dflt (refine' dq_pop_K ?k1 ?k2 ?k3 ?z ?_; (case k1 => k_asm); (case k2 => k_asm); (case k3 => k_upd); (case z => assumption); k_whole); intro h' F' N'; (try k_sweep)))
local macro_rules | `(tactic| walk_at "call builtin:len") => `(tactic| (k_here; (with_reducible show wpAny _ _ (call (Value.builtin "len") [Value.bytes _ _]) _ _ _); (refine len_bytes (by omega) ?_)))
local macro_rules | `(tactic| k_clsL) => `(tactic| first | with_reducible assumption | (refine List.mem_cons_of_mem _ ?_; k_clsL))
local macro_rules | `(tactic| k_mem) => `(tactic| k_clsL)
set_option hygiene false in
local macro_rules | `(tactic| walk_at "own:enter") => `(tactic| (
  refine' code_def B0 F X N Tp rfl hf hke ?k6 ?k7 ?k8 ?k9 ?kB ?_ ?c2 ?c3 ?c4 ?c5
  (case k6 => k_is)
  (case k7 => k_is)
  (case k8 => k_room)
  (case k9 => exact BindsTo.of_eq rfl)
  (case c5 => decide)
  (case kB => exact locs rfl)
  (case c2 => exact rfl)
  (case c3 => exact rfl)
  (case c4 => exact rfl)
  intro g' L' h' FG' F' N' B' X' T'
  (try dsimp only)
  (try k_lift B')
  (try k_fold)))
local macro_rules | `(tactic| walk_at "binaryOp Mult bytes int") => `(tactic| (k_here; k_dflt (refine' bytes_mul_any (b := [118]) ?b ?lo ?hi ?ln ?_; (case b => simp); (case lo => omega); (case hi => omega); (case ln => decide); k_whole); intro t' k'; (try dsimp only)))
local macro_rules | `(tactic| walk_at "call type:collections.deque") => `(tactic| (k_here; k_dflt (refine' dq_new_K ?k1 ?k2 ?_; (case k1 => k_asm); (case k2 => k_asm); k_whole); intro q' h' F' N' l1; (try k_lt l1); (try k_sweep)))
section
variable {w : World} {A A₀ : Around} {E : Value → Shared → Prop} {s : Shared} {h₀ base : Heap} {L : Addr} {m mg mb : Str → Option Value} {env env2 : Env} {outer : List Env} {mean : ExcName → Option Value}
local macro_rules | `(tactic| walk_at "call ref") => `(tactic| (k_here; (with_reducible show wpAny _ _ (call (Value.ref 216) _ _) _ _ _); k_dflt (refine' wpAny_call (Hold.get ?shr); k_whole)))
set_option pp.deepTerms false in
set_option pp.maxSteps 2000 in
theorem setm_ctr {T d q : Addr} {mx nm : Int} {tm tc t1 t2 t3 t4 tn : Tok} {rz : Bool} {st : Int} {xs : List Value} {ps₀ : List Pr} {tl : List (Addr × Obj)} {R : Result → Shared → Prop}
    (B0 : Below callerA base [] h₀) (F : Fr h₀ L s.heap m) (X : (KK w.params).In h₀) (Tp : Top qv (looseW qv qloose) mean mg mb h₀) (hf : env.frame = some L) (hke : env.scope.kind = .function)
    (N : News h₀ L s.heap ((T, instObj 219 d) :: (d, tabD w.params q mx (tot ps₀) tm tc t1 t2 t3 t4 rz) :: (q, dqO st xs) :: tl))
    (ho : OwnOff tl [T, d, q]) (h1 : @Ne Nat d T) (h2 : @Ne Nat T q) (h3 : @Ne Nat d q) (hxs : xs.length ≤ sizeLine)
    (hmx : 0 ≤ mx) (hnm : 0 ≤ nm) (htot : tot ps₀ ≤ mx) (hps : Pairs tl xs ps₀) (hsz : ∀ p ∈ ps₀, p.1.size ≤ 100 ∧ p.2.size ≤ 100)
    (hR : ∀ h' tk tm' tc' rz' st' xs', Fr h₀ L h' m → News h₀ L h' ((T, instObj 219 d) :: (d, tabD w.params q nm (tot (fit nm ps₀)) tm' tc' t1 t2 t3 t4 rz') :: (q, dqO st' xs') :: tl) →
      Pairs tl xs' (fit nm ps₀) → xs'.length ≤ sizeLine →
      R (.ok (.ret .none)) { s with heap := h', toks := tk }) : codeAny (model pw w) (callerA.deeper env).in1.in1 (.call (.ref 208) ⟨[.ref T, .int nm tn], []⟩) R s := by
  have law : PySem.Challenge.rw_ds0003_01 = PySem.Challenge.rw_ds0003_01 ∧ KK = KK := ⟨rfl, rfl⟩
  revert law
  k_fill
  intro law
  walk_at "own:enter"
  k_steps
  · rw [fit_zero (ps := ps₀) (by omega : nm = 0), tot_nil] at hR
    rename Fr h₀ L _ _ => F5
    rename News h₀ L _ _ => N5
    exact hR _ _ _ _ _ _ [] F5 N5 trivial (Nat.zero_le _)
  case shr =>
    unfold Hold
    rename Fr g' L' _ _ => F5
    rename News g' L' _ _ => N5
    refine shrink_ctr (ps₀ := ps₀) (xs := xs) B' F5 X' T' rfl rfl N5 ho h1 h2 h3 hxs hnm hps hsz rfl ?_
    intro h6 tk6 tc6 st6 xs6 F6 N6 hp6 hl6
    dsimp only
    k_steps
    rename Fr h₀ L _ _ => F5
    rename News h₀ L _ _ => N5
    exact hR _ _ _ _ _ _ xs6 F5 N5 hp6 hl6
  · rw [fit_stop (mx := nm) (ps := ps₀) (by omega)] at hR
    rename Fr h₀ L _ _ => F5
    rename News h₀ L _ _ => N5
    exact hR _ _ _ _ _ _ xs F5 N5 hps hxs
end
end
end Mine
namespace Mine
section
open PySem PySem.W PySem.Calls PyProof.Rows
set_option maxRecDepth 100000
set_option maxHeartbeats 4000000
local macro_rules | `(tactic| walk_at "own:pad0") => `(tactic| skip)
local macro_rules | `(tactic| walk_at "own:pad1") => `(tactic| skip)
local macro_rules | `(tactic| walk_at "own:pad2") => `(tactic| skip)
local macro_rules | `(tactic| walk_at "own:pad3") => `(tactic| skip)
local macro_rules | `(tactic| walk_at "own:pad4") => `(tactic| skip)
local macro_rules | `(tactic| walk_at "getMethod ref") => `(tactic| (k_here; (with_reducible show wpAny _ _ (getMethod (Value.ref _) (PySem.Str.ofString "clear") _) _ _ _); k_dflt (refine' dq_method_K ?N ?m slot_dq_clear type_dq_clear ?_; (case N => k_asm); (case m => k_mem); k_whole)))
local macro_rules | `(tactic| walk_at "getMethod ref") => `(tactic| (k_here; (with_reducible show wpAny _ _ (getMethod (Value.ref _) (PySem.Str.ofString "appendleft") _) _ _ _); k_dflt (refine' dq_method_K ?N ?m slot_dq_appendleft type_dq_appendleft ?_; (case N => k_asm); (case m => k_mem); k_whole)))
local macro_rules | `(tactic| walk_at "getMethod ref") => `(tactic| (k_here; (with_reducible show wpAny _ _ (getMethod (Value.ref _) (PySem.Str.ofString "pop") _) _ _ _); k_dflt (refine' dq_method_K ?N ?m slot_dq_pop type_dq_pop ?_; (case N => k_asm); (case m => k_mem); k_whole)))
local macro_rules | `(tactic| walk_at "call builtin:collections.deque.clear") => `(tactic| (k_here; k_dflt (refine' dq_clear_K ?k1 ?k2 ?k3 ?_; (case k1 => k_asm); (case k2 => k_asm); (case k3 => k_upd); k_whole); intro h' F' N'; (try k_sweep)))
local macro_rules | `(tactic| walk_at "call builtin:collections.deque.appendleft") => `(tactic| (k_here; k_dflt (refine' dq_appendleft_K ?k1 ?k2 ?k3 ?z ?_; (case k1 => k_asm); (case k2 => k_asm); (case k3 => k_upd); (case z => assumption); k_whole); intro h' F' N'; (try k_sweep)))
local macro_rules | `(tactic| walk_at "call builtin:collections.deque.pop") => `(tactic| (k_here; k_dflt (refine' dq_pop_K ?k1 ?k2 ?k3 ?z ?_; (case k1 => k_asm); (case k2 => k_asm); (case k3 => k_upd); (case z => assumption); k_whole); intro h' F' N'; (try k_sweep)))
local macro_rules | `(tactic| walk_at "call builtin:len") => `(tactic| (k_here; (with_reducible show wpAny _ _ (call (Value.builtin "len") [Value.bytes _ _]) _ _ _); (refine len_bytes (by omega) ?_)))
local macro_rules | `(tactic| k_clsL) => `(tactic| first | with_reducible assumption | (refine List.mem_cons_of_mem _ ?_; k_clsL))
local macro_rules | `(tactic| k_mem) => `(tactic| k_clsL)
set_option hygiene false in
local macro_rules | `(tactic| walk_at "own:enter") => `(tactic| (
  refine' code_def B0 F X N Tp rfl hf hke ?k6 ?k7 ?k8 ?k9 ?kB ?_ ?c2 ?c3 ?c4 ?c5
  (case k6 => k_is)
  (case k7 => k_is)
  (case k8 => k_room)
  (case k9 => exact BindsTo.of_eq rfl)
  (case c5 => decide)
  (case kB => exact locs rfl)
  (case c2 => exact rfl)
  (case c3 => exact rfl)
  (case c4 => exact rfl)
  intro g' L' h' FG' F' N' B' X' T'
  (try dsimp only)
  (try k_lift B')
  (try k_fold)))
local macro_rules | `(tactic| walk_at "binaryOp Mult bytes int") => `(tactic| (k_here; k_dflt (refine' bytes_mul_any (b := [118]) ?b ?lo ?hi ?ln ?_; (case b => simp); (case lo => omega); (case hi => omega); (case ln => decide); k_whole); intro t' k'; (try dsimp only)))
local macro_rules | `(tactic| walk_at "call type:collections.deque") => `(tactic| (k_here; k_dflt (refine' dq_new_K ?k1 ?k2 ?_; (case k1 => k_asm); (case k2 => k_asm); k_whole); intro q' h' F' N' l1; (try k_lt l1); (try k_sweep)))
section
variable {w : World} {A A₀ : Around} {E : Value → Shared → Prop} {s : Shared} {h₀ base : Heap} {L : Addr} {m mg mb : Str → Option Value} {env env2 : Env} {outer : List Env} {mean : ExcName → Option Value}
theorem News.drop2 {h : Heap} {x y : Addr × Obj} {tl : List (Addr × Obj)} (N : News h₀ L h (x :: y :: tl)) : News h₀ L h (x :: tl) :=
  News.sub' N fun p hp => (List.mem_cons.mp hp).elim (fun e => e ▸ List.mem_cons_self) fun h => List.mem_cons_of_mem _ (List.mem_cons_of_mem _ h)
def lname (k : Int) : Array UInt8 := if k.fmod 5 = 0 then #[] else if k.fmod 5 = 1 then #[97] else if k.fmod 5 = 2 then #[98, 99] else if k.fmod 5 = 3 then #[100, 97, 116, 101] else #[97, 103, 101]
def lval (k : Int) : Array UInt8 := ((List.replicate ((k.fdiv 5).fmod 41).toNat [118]).flatten).toArray
theorem fmod_lt41 (k : Int) : 0 ≤ k.fmod 41 ∧ k.fmod 41 < 41 := by
  have : k.fmod 41 = k % 41 := Int.fmod_eq_emod_of_nonneg k (by decide)
  omega
theorem lval_size (k : Int) : (lval k).size ≤ 40 := by
  have := fmod_lt41 (k.fdiv 5)
  simp [lval]; omega
theorem lname_size (k : Int) : (lname k).size ≤ 4 := by
  unfold lname; split <;> (try split) <;> (try split) <;> (try split) <;> simp
set_option pp.deepTerms false in
set_option pp.maxSteps 2000 in
theorem pair_ctr {k : Int} {tk₀ : Tok} {nw : List (Addr × Obj)} {R : Result → Shared → Prop}
    (B0 : Below callerA base [] h₀) (F : Fr h₀ L s.heap m) (X : (KK w.params).In h₀) (Tp : Top qv (looseW qv qloose) mean mg mb h₀) (hf : env.frame = some L) (hke : env.scope.kind = .function)
    (N : News h₀ L s.heap nw)
    (hR : ∀ h' tk D tn tv, Fr h₀ L h' m → News h₀ L h' ((D, tupB (lname k) tn (lval k) tv) :: nw) → (∀ p ∈ nw, p.1 < D) →
      R (.ok (.ret (.ref D))) { s with heap := h', toks := tk }) : codeAny (model pw w) (callerA.deeper env) (.call (.ref 792) ⟨[.int k tk₀], []⟩) R s := by
  have law : PySem.Challenge.rw_ds0003_01 = PySem.Challenge.rw_ds0003_01 ∧ KK = KK := ⟨rfl, rfl⟩
  revert law
  k_fill
  intro law
  walk_at "own:enter"
  k_steps
  have hc : k.fmod 5 = 0 ∨ k.fmod 5 = 1 ∨ k.fmod 5 = 2 ∨ k.fmod 5 = 3 ∨ k.fmod 5 = 4 := by
    have : k.fmod 5 = k % 5 := Int.fmod_eq_emod_of_nonneg k (by decide)
    omega
  obtain ⟨hv0, hv1⟩ := fmod_lt41 (k.fdiv 5)
  have hR' : ∀ nm, lname k = nm → ∀ h' tk D tn tv, Fr h₀ L h' m → News h₀ L h' ((D, tupB nm tn ((List.replicate ((k.fdiv 5).fmod 41).toNat [118]).flatten).toArray tv) :: nw) → (∀ p ∈ nw, p.1 < D) →
      R (.ok (.ret (.ref D))) { s with heap := h', toks := tk } := by
    intro nm e; subst e; exact hR
  clear hR
  rcases hc with h | h | h | h | h
  · have e : lname k = #[] := by simp [lname, h]
    rw [h]
    k_steps
    rename Fr h₀ L _ _ => F5
    rename News h₀ L _ _ => N5
    rename _ ∧ AllLt _ nw => l5
    exact hR' _ e _ _ _ _ _ F5 (News.drop2 N5) (allLt_to l5.2)
  · have e : lname k = #[97] := by simp [lname, h]
    rw [h]
    k_steps
    rename Fr h₀ L _ _ => F5
    rename News h₀ L _ _ => N5
    rename _ ∧ AllLt _ nw => l5
    exact hR' _ e _ _ _ _ _ F5 (News.drop2 N5) (allLt_to l5.2)
  · have e : lname k = #[98, 99] := by simp [lname, h]
    rw [h]
    k_steps
    rename Fr h₀ L _ _ => F5
    rename News h₀ L _ _ => N5
    rename _ ∧ AllLt _ nw => l5
    exact hR' _ e _ _ _ _ _ F5 (News.drop2 N5) (allLt_to l5.2)
  · have e : lname k = #[100, 97, 116, 101] := by simp [lname, h]
    rw [h]
    k_steps
    rename Fr h₀ L _ _ => F5
    rename News h₀ L _ _ => N5
    rename _ ∧ AllLt _ nw => l5
    exact hR' _ e _ _ _ _ _ F5 (News.drop2 N5) (allLt_to l5.2)
  · have e : lname k = #[97, 103, 101] := by simp [lname, h]
    rw [h]
    k_steps
    rename Fr h₀ L _ _ => F5
    rename News h₀ L _ _ => N5
    rename _ ∧ AllLt _ nw => l5
    exact hR' _ e _ _ _ _ _ F5 (News.drop2 N5) (allLt_to l5.2)
end
end
end Mine
namespace Mine
section
open PySem PySem.W PySem.Calls PyProof.Rows
set_option maxRecDepth 100000
set_option maxHeartbeats 4000000
local macro_rules | `(tactic| walk_at "own:pad0") => `(tactic| skip)
local macro_rules | `(tactic| walk_at "own:pad1") => `(tactic| skip)
local macro_rules | `(tactic| walk_at "own:pad2") => `(tactic| skip)
local macro_rules | `(tactic| walk_at "own:pad3") => `(tactic| skip)
local macro_rules | `(tactic| walk_at "own:pad4") => `(tactic| skip)
local macro_rules | `(tactic| walk_at "own:pad5") => `(tactic| skip)
local macro_rules | `(tactic| walk_at "getMethod ref") => `(tactic| (k_here; (with_reducible show wpAny _ _ (getMethod (Value.ref _) (PySem.Str.ofString "clear") _) _ _ _); k_dflt (refine' dq_method_K ?N ?m slot_dq_clear type_dq_clear ?_; (case N => k_asm); (case m => k_mem); k_whole)))
local macro_rules | `(tactic| walk_at "getMethod ref") => `(tactic| (k_here; (with_reducible show wpAny _ _ (getMethod (Value.ref _) (PySem.Str.ofString "appendleft") _) _ _ _); k_dflt (refine' dq_method_K ?N ?m slot_dq_appendleft type_dq_appendleft ?_; (case N => k_asm); (case m => k_mem); k_whole)))
local macro_rules | `(tactic| walk_at "getMethod ref") => `(tactic| (k_here; (with_reducible show wpAny _ _ (getMethod (Value.ref _) (PySem.Str.ofString "pop") _) _ _ _); k_dflt (refine' dq_method_K ?N ?m slot_dq_pop type_dq_pop ?_; (case N => k_asm); (case m => k_mem); k_whole)))
local macro_rules | `(tactic| walk_at "call builtin:collections.deque.clear") => `(tactic| (k_here; k_dflt (refine' dq_clear_K ?k1 ?k2 ?k3 ?_; (case k1 => k_asm); (case k2 => k_asm); (case k3 => k_upd); k_whole); intro h' F' N'; (try k_sweep)))
local macro_rules | `(tactic| walk_at "call builtin:collections.deque.appendleft") => `(tactic| (k_here; k_dflt (refine' dq_appendleft_K ?k1 ?k2 ?k3 ?z ?_; (case k1 => k_asm); (case k2 => k_asm); (case k3 => k_upd); (case z => assumption); k_whole); intro h' F' N'; (try k_sweep)))
local macro_rules | `(tactic| walk_at "call builtin:collections.deque.pop") => `(tactic| (k_here; k_dflt (refine' dq_pop_K ?k1 ?k2 ?k3 ?z ?_; (case k1 => k_asm); (case k2 => k_asm); (case k3 => k_upd); (case z => assumption); k_whole); intro h' F' N'; (try k_sweep)))
local macro_rules | `(tactic| walk_at "call builtin:len") => `(tactic| (k_here; (with_reducible show wpAny _ _ (call (Value.builtin "len") [Value.bytes _ _]) _ _ _); (refine len_bytes (by omega) ?_)))
local macro_rules | `(tactic| k_clsL) => `(tactic| first | with_reducible assumption | (refine List.mem_cons_of_mem _ ?_; k_clsL))
local macro_rules | `(tactic| k_mem) => `(tactic| k_clsL)
set_option hygiene false in
local macro_rules | `(tactic| walk_at "own:enter") => `(tactic| (
  refine' code_def B0 F X N Tp rfl hf hke ?k6 ?k7 ?k8 ?k9 ?kB ?_ ?c2 ?c3 ?c4 ?c5
  (case k6 => k_is)
  (case k7 => k_is)
  (case k8 => k_room)
  (case k9 => exact BindsTo.of_eq rfl)
  (case c5 => decide)
  (case kB => exact locs rfl)
  (case c2 => exact rfl)
  (case c3 => exact rfl)
  (case c4 => exact rfl)
  intro g' L' h' FG' F' N' B' X' T'
  (try dsimp only)
  (try k_lift B')
  (try k_fold)))
local macro_rules | `(tactic| walk_at "binaryOp Mult bytes int") => `(tactic| (k_here; k_dflt (refine' bytes_mul_any (b := [118]) ?b ?lo ?hi ?ln ?_; (case b => simp); (case lo => omega); (case hi => omega); (case ln => decide); k_whole); intro t' k'; (try dsimp only)))
local macro_rules | `(tactic| walk_at "call type:collections.deque") => `(tactic| (k_here; k_dflt (refine' dq_new_K ?k1 ?k2 ?_; (case k1 => k_asm); (case k2 => k_asm); k_whole); intro q' h' F' N' l1; (try k_lt l1); (try k_sweep)))
section
variable {w : World} {A A₀ : Around} {E : Value → Shared → Prop} {s : Shared} {h₀ base : Heap} {L : Addr} {m mg mb : Str → Option Value} {env env2 : Env} {outer : List Env} {mean : ExcName → Option Value}
open LCg in
theorem compRest_of {elt : Expr} {x : Str} {scope : Scope} {cl : List (Str × Addr)} {S : List (Addr × Obj) → Prop} {P : Nat → Value → Prop} {Fin : List Value → List (Addr × Obj) → Prop} {nw : List (Addr × Obj)} (Y : Nat → Value → Prop) (hS : S nw)
    (turn : ∀ i v I oI C oC D ys m₂ h tk (E' : Value → Shared → Prop), P i v → NsObj oC m₂ → m₂ x = some v → Fr h₀ L h m → News h₀ L h ((I, oI) :: (C, oC) :: (D, lst ys) :: nw) → Off3 I C D nw → ((@Ne Nat I C) ∧ (@Ne Nat I D) ∧ (@Ne Nat C D)) →
      wpAny (model pw w) A (eval elt (compEnvC scope cl C env)) (fun y s₂ => Y i y ∧ ∃ h' tk', s₂ = { s with heap := h', toks := tk' } ∧ Fr h₀ L h' m ∧ News h₀ L h' ((I, oI) :: (C, oC) :: (D, lst ys) :: nw)) E' { s with heap := h, toks := tk }) :
    ∀ (k i : Nat) (ys : List Value), ys.length = i → (∀ j y, ys[j]? = some y → Y j y) → (∀ zs : List Value, zs.length = i + k → (∀ j y, zs[j]? = some y → Y j y) → Fin zs nw) →
      CompRest pw w A h₀ L m env elt x scope cl s S P Fin k i ys nw
  | 0, _, ys, hl, hy, hf => hf ys hl hy
  | k + 1, i, ys, hl, hy, hf => by
    refine CompRest.succ ?_
    intro v I oI C oC D m₂ h tk E' hP hN hx F N hO hne
    refine wpAny_mono (turn i v I oI C oC D ys m₂ h tk E' hP hN hx F N hO hne) ?_ fun _ _ e => e
    rintro y s₂ ⟨hYy, h', tk', rfl, F', N'⟩
    refine ⟨h', tk', nw, rfl, F', N', hO, hS, ?_⟩
    refine compRest_of Y hS turn k (i + 1) (ys ++ [y]) (by simp [hl]) ?_ ?_
    · intro j z hz
      rcases Nat.lt_or_ge j ys.length with hj | hj
      · rw [List.getElem?_append_left hj] at hz; exact hy j z hz
      · rw [List.getElem?_append_right hj] at hz
        have : j = i := by
          rcases Nat.eq_or_lt_of_le hj with e | e
          · omega
          · have : ([y] : List Value)[j - ys.length]? = none := List.getElem?_eq_none (by simp; omega)
            rw [this] at hz; cases hz
        subst this
        rw [← hl, Nat.sub_self] at hz
        cases hz
        exact hYy
    · intro zs hz hz'
      exact hf zs (by omega) hz'
end
end
end Mine
namespace Mine
section
open PySem PySem.W PySem.Calls PyProof.Rows
set_option maxRecDepth 100000
section
variable {prog : Program} {w : World} {A : Around} {E : Value → Shared → Prop} {s : Shared}
theorem eqAt_bytes (b : Array UInt8) (t : Tok) (c : Array UInt8) (u : Tok) : SeqAt.EqAt A s (.bytes b t) (.bytes c u) (b.toList == c.toList) := by
  intro prog w E Q h
  unfold eqBool
  refine wpAny_holding ?_
  refine wpAny_ite_split (fun hab => ?_) (fun hab => ?_)
  · have e : b = c := by have := eq_of_beq hab; injection this
    subst e
    exact wpAny_bind (wpAny_rule (wpAny_pure (by simpa using h)))
  · exact wpAny_bind (richCompare_gives (typeIs_bytes s b t) (typeIs_bytes s c u) FB.slot_bytes_eq FB.entry_bytes_eq (FB.args_bytes_eq_2 _ _) (gives_bytes_eq b c t u) (by simp [Made.takes]) (wpAny_truthy_bool h))
def prEq (p r : Pr) : Bool := p.1.toList == r.1.toList && p.2.toList == r.2.toList
theorem prEq_iff (p r : Pr) : prEq p r = true ↔ p = r := by
  unfold prEq
  rw [Bool.and_eq_true, beq_iff_eq, beq_iff_eq]
  constructor
  · rintro ⟨h1, h2⟩; exact Prod.ext (Array.toList_inj.mp h1) (Array.toList_inj.mp h2)
  · rintro rfl; exact ⟨rfl, rfl⟩
theorem prEq_self (p : Pr) : prEq p p = true := (prEq_iff p p).mpr rfl
def prE (p r : Pr) : Nat → Bool
  | 0 => p.1.toList == r.1.toList
  | _ => p.2.toList == r.2.toList
theorem prE_all (p r : Pr) : ((List.range 2).all (prE p r)) = prEq p r := by
  show (prE p r 0 && (prE p r 1 && true)) = _
  rw [Bool.and_true]; rfl
theorem prE_at {p r : Pr} {t t' u u' : Tok} {A : Around} : ∀ j (h1 : j < #[Value.bytes p.1 t, Value.bytes p.2 t'].size) (h2 : j < #[Value.bytes r.1 u, Value.bytes r.2 u'].size), SeqAt.EqAt A s #[Value.bytes p.1 t, Value.bytes p.2 t'][j] #[Value.bytes r.1 u, Value.bytes r.2 u'][j] (prE p r j)
  | 0, _, _ => eqAt_bytes _ _ _ _
  | 1, _, _ => eqAt_bytes _ _ _ _
  | j + 2, h1, _ => absurd h1 (by simp)
theorem rc_pair {a b : Addr} {p r : Pr} {t t' u u' : Tok} (ha : s.heap.IsTuple a #[.bytes p.1 t, .bytes p.2 t']) (hb : s.heap.IsTuple b #[.bytes r.1 u, .bytes r.2 u']) (hu : A.units < cLine) : SeqAt.RcAt A s (.ref a) (.ref b) (prEq p r) := by
  have := SeqAt.RcAt.tuples (e := prE p r) ha hb hu prE_at
  have e : ((List.range (min #[Value.bytes p.1 t, Value.bytes p.2 t'].size #[Value.bytes r.1 u, Value.bytes r.2 u'].size)).all (prE p r) && #[Value.bytes p.1 t, Value.bytes p.2 t'].size == #[Value.bytes r.1 u, Value.bytes r.2 u'].size) = prEq p r := by
    show ((List.range 2).all (prE p r) && true) = _
    rw [Bool.and_true, prE_all]
  rw [e] at this; exact this
theorem rcNe_pair {a b : Addr} {p r : Pr} {t t' u u' : Tok} (ha : s.heap.IsTuple a #[.bytes p.1 t, .bytes p.2 t']) (hb : s.heap.IsTuple b #[.bytes r.1 u, .bytes r.2 u']) (hu : A.units < cLine) : SeqAt.RcNeAt A s (.ref a) (.ref b) (!prEq p r) := by
  have := SeqAt.RcNeAt.tuples (e := prE p r) ha hb hu prE_at
  have e : ((List.range (min #[Value.bytes p.1 t, Value.bytes p.2 t'].size #[Value.bytes r.1 u, Value.bytes r.2 u'].size)).all (prE p r) && #[Value.bytes p.1 t, Value.bytes p.2 t'].size == #[Value.bytes r.1 u, Value.bytes r.2 u'].size) = prEq p r := by
    show ((List.range 2).all (prE p r) && true) = _
    rw [Bool.and_true, prE_all]
  rw [e] at this; exact this
theorem eqAt_pair {a b : Addr} {p r : Pr} {t t' u u' : Tok} (ha : s.heap.IsTuple a #[.bytes p.1 t, .bytes p.2 t']) (hb : s.heap.IsTuple b #[.bytes r.1 u, .bytes r.2 u']) (hu : A.units < cLine) : SeqAt.EqAt A s (.ref a) (.ref b) (prEq p r) := by
  by_cases h : a = b
  · subst h
    obtain ⟨o, h1, _, n, h3⟩ := ha
    obtain ⟨o', k1, _, n', k3⟩ := hb
    rw [h1] at k1; cases k1
    rw [h3] at k3
    have e1 : p.1 = r.1 := by simp at k3; exact k3.1.1.1
    have e2 : p.2 = r.2 := by simp at k3; exact k3.1.2.1
    have : p = r := Prod.ext e1 e2
    subst this
    rw [prEq_self]; exact SeqAt.EqAt.same _
  · exact SeqAt.EqAt.of_refs h (rc_pair ha hb hu)
theorem eq_pair {a b : Addr} {p r : Pr} {t t' u u' : Tok} {Q : Value → Shared → Prop} (ha : s.heap.IsTuple a #[.bytes p.1 t, .bytes p.2 t']) (hb : s.heap.IsTuple b #[.bytes r.1 u, .bytes r.2 u']) (hu : A.units < cLine)
    (h : Q (.bool (prEq p r)) s) : wpAny (model prog w) A (compareOp .Eq (.ref a) (.ref b)) Q E s := rc_pair ha hb hu prog w E Q h
theorem ne_pair {a b : Addr} {p r : Pr} {t t' u u' : Tok} {Q : Value → Shared → Prop} (ha : s.heap.IsTuple a #[.bytes p.1 t, .bytes p.2 t']) (hb : s.heap.IsTuple b #[.bytes r.1 u, .bytes r.2 u']) (hu : A.units < cLine)
    (h : Q (.bool (!prEq p r)) s) : wpAny (model prog w) A (compareOp .NotEq (.ref a) (.ref b)) Q E s := rcNe_pair ha hb hu prog w E Q h
/-- the tuple that a search gives, or None -/
def fItems (k : Int) (t : Tok) (n : Array UInt8) (tn : Tok) (v : Value) : Array Value := #[.int k t, .bytes n tn, v]
def FVal (v : Array UInt8) : Bool → Value → Prop
  | true, x => ∃ t, x = .bytes v t
  | false, x => x = .none
def FRes (h : Heap) (n v : Array UInt8) : Option (Int × Bool) → Value → Prop
  | none, x => x = .none
  | some (k, b), x => ∃ a t tn y, x = .ref a ∧ FVal v b y ∧ h.IsTuple a (fItems k t n tn y)
theorem fEq_at {k : Int} {n : Array UInt8} {t t' u u' : Tok} {x y : Value} {A : Around} (he : SeqAt.EqAt A s x y true) : ∀ j (h1 : j < (fItems k t n t' x).size) (h2 : j < (fItems k u n u' y).size), SeqAt.EqAt A s (fItems k t n t' x)[j] (fItems k u n u' y)[j] true
  | 0, _, _ => by have := SeqAt.EqAt.int_int (A := A) (s := s) k t k u; rw [beq_self_eq_true] at this; exact this
  | 1, _, _ => by have := eqAt_bytes (A := A) (s := s) n t' n u'; rw [beq_self_eq_true] at this; exact this
  | 2, _, _ => he
  | j + 3, h1, _ => absurd h1 (by simp [fItems])
theorem ne_found {n v : Array UInt8} {d : Option (Int × Bool)} {x y : Value} {Q : Value → Shared → Prop} (hx : FRes s.heap n v d x) (hy : FRes s.heap n v d y) (hu : A.units < cLine)
    (h : Q (.bool false) s) : wpAny (model prog w) A (compareOp .NotEq x y) Q E s := by
  match d, hx, hy with
  | none, hx, hy =>
    cases hx; cases hy
    exact SeqAt.RcNeAt.none_none prog w E Q h
  | some (k, b), ⟨a, t, tn, x', e1, hv1, ht1⟩, ⟨c, t', tn', y', e2, hv2, ht2⟩ =>
    subst e1; subst e2
    have he : SeqAt.EqAt A.in1 s x' y' true := by
      cases b with
      | true =>
        obtain ⟨tx, rfl⟩ := hv1
        obtain ⟨ty, rfl⟩ := hv2
        have := eqAt_bytes (A := A.in1) (s := s) v tx v ty; rw [beq_self_eq_true] at this; exact this
      | false => cases hv1; cases hv2; exact SeqAt.EqAt.same _
    have := SeqAt.RcNeAt.tuples (e := fun _ => true) ht1 ht2 hu (fEq_at he)
    have e : (!((List.range (min (fItems k t n tn x').size (fItems k t' n tn' y').size)).all (fun _ => true) && (fItems k t n tn x').size == (fItems k t' n tn' y').size)) = false := by rfl
    rw [e] at this
    exact this prog w E Q h
theorem Pairs.get2 {tl tl' : List (Addr × Obj)} : ∀ {xs ys : List Value} {ps : List Pr}, Pairs tl xs ps → Pairs tl' ys ps → ∀ j (h1 : j < xs.length) (h2 : j < ys.length), ∃ p, PairAt tl xs[j] p ∧ PairAt tl' ys[j] p
  | _ :: _, _ :: _, _ :: _, ⟨a, _⟩, ⟨b, _⟩, 0, _, _ => ⟨_, a, b⟩
  | _ :: _, _ :: _, _ :: _, ⟨_, r⟩, ⟨_, q⟩, j + 1, h1, h2 => Pairs.get2 r q j (Nat.lt_of_succ_lt_succ h1) (Nat.lt_of_succ_lt_succ h2)
  | [], _, _, _, _, _, h1, _ => absurd h1 (Nat.not_lt_zero _)
  | _, [], _, _, _, _, _, h2 => absurd h2 (Nat.not_lt_zero _)
  | _ :: _, _ :: _, [], h, _, _, _, _ => h.elim
theorem PairAt.tup {h₀ h : Heap} {L : Addr} {tl : List (Addr × Obj)} {x : Value} {p : Pr} (N : News h₀ L h tl) (a : PairAt tl x p) : ∃ D t t', x = .ref D ∧ h.IsTuple D #[.bytes p.1 t, .bytes p.2 t'] := by
  obtain ⟨D, t, t', rfl, hm⟩ := a
  exact ⟨D, t, t', rfl, ⟨_, (N _ hm).1, rfl, _, rfl⟩⟩
theorem ne_lists {h₀ : Heap} {L : Addr} {tl : List (Addr × Obj)} {a b : Addr} {xs ys : List Value} {ps : List Pr} {Q : Value → Shared → Prop} (N : News h₀ L s.heap tl) (ha : s.heap.IsList a xs.toArray) (hb : s.heap.IsList b ys.toArray) (hx : Pairs tl xs ps) (hy : Pairs tl ys ps) (hu : A.units + 1 < cLine)
    (h : Q (.bool false) s) : wpAny (model prog w) A (compareOp .NotEq (.ref a) (.ref b)) Q E s := by
  have hl : xs.toArray.size = ys.toArray.size := by simp [hx.len, hy.len]
  have := SeqAt.RcNeAt.lists (e := fun _ => true) ha hb hl (by omega) (A := A) fun j h1 h2 => by
    obtain ⟨p, h3, h4⟩ := hx.get2 hy j (by simpa using h1) (by simpa using h2)
    obtain ⟨D, t, t', e1, hD⟩ := h3.tup N
    obtain ⟨D', u, u', e2, hD'⟩ := h4.tup N
    have e1' : xs.toArray[j] = .ref D := by simpa using e1
    have e2' : ys.toArray[j] = .ref D' := by simpa using e2
    rw [e1', e2']
    have := eqAt_pair (A := A.in1) hD hD' hu
    rw [prEq_self] at this
    exact this
  have e : (!(List.range xs.toArray.size).all fun _ => true) = false := by simp
  rw [e] at this
  exact this prog w E Q h
end
end
end Mine
namespace Mine
section
open PySem PySem.W PySem.Calls PyProof.Rows
set_option maxRecDepth 100000
theorem slot_dqi_iter : Slot "collections._deque_iterator" "__iter__" "collections._deque_iterator.__iter__" :=
  .of (owner := "collections._deque_iterator") (n := "__iter__") (by rw [typeLookup_type, builtinLookup_eq_fast]; kernel_rfl) (by decide +kernel) (by decide +kernel) (by decide +kernel)
    (by first | exact .inl (by decide +kernel) | exact .inr (by decide +kernel)) (by rw [isSubtype_type]; kernel_rfl)
theorem entry_dqi_iter : entryFor table "collections._deque_iterator.__iter__" = some Builtin.«dict_keyiterator.__iter__» :=
  entryFor_alias (id' := "dict_keyiterator.__iter__") (by kernel_rfl) (by first | rfl | decide +kernel | (unfold String.splitOn; simp +decide [String.splitOnAux])) (by decide +kernel) (by kernel_rfl)
theorem args_dqi_iter (a : Value) : argsOk "collections._deque_iterator.__iter__" ⟨[a], []⟩ := by unfold argsOk; kernel_rfl
theorem sub_dq_dq : isSubtype (.type "collections.deque") (.type "collections.deque") = pure true := sub_dq
/-- the iterator over a deque: the deque, the place, the count of changes, how many are left -/
abbrev dqI (q : Addr) (i : Nat) (st : Int) (l : Int) : Obj := { cls := .type "collections._deque_iterator", data := .fields #[.ref q, .int i 0, .int st 0, .int l 0] }
section
variable {prog : Program} {w : World} {A : Around} {E : Value → Shared → Prop} {s : Shared} {q I : Addr} {st : Int} {xs : List Value}
theorem dq_len_body {R : Result → Shared → Prop} (ho : s.heap.get? q = some (dqO st xs)) (h : R (.ok (.ret (.int xs.length s.toks))) { s with toks := s.toks + 1 }) :
    wpAny (model prog w) A.in1 (Builtin.«collections.deque.__len__» ⟨[.ref q], []⟩) (fun fin s' => match fin with | .done f => R (.ok f) s' | .again c' => c'.quiet = true ∧ codeAny (model prog w) A c' R s') (fun e s' => R (.error e) s') s := by
  show wpAny _ _ (Builtin.Deque.size (.ref q) >>= fun n => retInt n) _ _ _
  refine wpAny_bind (dq_size ho ?_)
  exact wpAny_bind (wpAny_mkInt (wpAny_pure h))
theorem dq_len {Q : Value → Shared → Prop} (ho : s.heap.get? q = some (dqO st xs)) (hz : xs.length ≤ sizeLine) (h : ∀ t tk, Q (.int xs.length t) { s with toks := tk }) : wpAny (model prog w) A (call (.builtin "len") [.ref q]) Q E s := by
  have hz' : sizeLine ≤ 2 ^ 60 := by decide
  exact call_len_meets (S := fun A R s => s.heap.get? q = some (dqO st xs) ∧ R (.ok (.ret (.int xs.length s.toks))) { s with toks := s.toks + 1 }) ⟨_, ho, rfl⟩ slot_dq_len entry_dq_len (args_dq_len _)
    (fun prog w A R s h => dq_len_body h.1 h.2) (by omega) (by omega) (fun Q' hq => ⟨ho, hq⟩) (h _ _)
theorem dq_iter {Q : Value → Shared → Prop} (ho : s.heap.get? q = some (dqO st xs))
    (hQ : Q (.ref s.heap.objs.size) { s with heap := s.heap.push (dqI q 0 st xs.length) }) : wpAny (model prog w) A (pyIter (.ref q)) Q E s := by
  have hT : s.TypeIs (.ref q) "collections.deque" := ⟨_, ho, rfl⟩
  refine wpAny_pyIter_slot hT slot_dq_iter (wpAny_call_entry slot_dq_iter hT entry_dq_iter ?_ (args_dq_iter _))
  show wpAny _ _ (Builtin.Deque.state (.ref q) >>= fun a => Builtin.Deque.size (.ref q) >>= fun b => newFields "collections._deque_iterator" [.ref q, rawInt 0, rawInt a, rawInt b] >>= fun r => ret r) _ _ s
  refine wpAny_bind (dq_state ho ?_)
  refine wpAny_bind (dq_size ho ?_)
  exact wpAny_bind (wpAny_newObj_type (wpAny_pure ⟨_, rfl, "collections._deque_iterator", _, ⟨_, Heap.get?_push_size _ rfl, rfl⟩, slot_dqi_next.lookup, hQ⟩))
theorem dqi_self {i : Nat} {l : Int} {Q : Value → Shared → Prop} (hi : s.heap.get? I = some (dqI q i st l)) (h : Q (.ref I) s) : wpAny (model prog w) A (pyIter (.ref I)) Q E s := by
  have hT : s.TypeIs (.ref I) "collections._deque_iterator" := ⟨_, hi, rfl⟩
  refine wpAny_pyIter_slot hT slot_dqi_iter (wpAny_call_entry slot_dqi_iter hT entry_dqi_iter ?_ (args_dqi_iter _))
  exact wpAny_pure ⟨_, rfl, "collections._deque_iterator", _, hT, slot_dqi_next.lookup, h⟩
theorem dqi_adv_item {i : Nat} {l : Int} {x : Value} {Q : Option Value → Shared → Prop} (hne : q ≠ I) (hi : s.heap.get? I = some (dqI q i st l)) (ho : s.heap.get? q = some (dqO st xs)) (hl : l ≠ 0) (hx : xs[i]? = some x)
    (h : ∀ h', h'.get? I = some (dqI q (i + 1) st (l - 1)) → Heap.SameBut I s.heap h' → Q (some x) { s with heap := h' }) : wpAny (model prog w) A (Builtin.DequeIter.advance (.ref I) 1) Q E s := by
  unfold Builtin.DequeIter.advance
  refine wpAny_bind (wpAny_field hi rfl (x := .ref q) rfl ?_)
  rw [if_neg (by decide)]
  refine wpAny_bind (dq_state ho ?_)
  refine wpAny_bind ?_
  unfold Builtin.DequeIter.raw
  refine wpAny_bind (wpAny_field hi rfl (x := .int st 0) rfl (wpAny_pure ?_))
  rw [if_neg (by simp)]
  refine wpAny_bind (wpAny_bind (wpAny_field hi rfl (x := .int l 0) rfl (wpAny_pure ?_)))
  rw [if_neg (by simpa using hl)]
  refine wpAny_bind (wpAny_bind (wpAny_field hi rfl (x := .int i 0) rfl (wpAny_pure ?_)))
  refine wpAny_bind (dq_items ho ?_)
  have hx' : xs.toArray[(i : Int).toNat]? = some x := by simpa using hx
  rw [hx']
  refine wpAny_bind (wpAny_setField_rec hi (by simp) fun h₁ hi₁ hs₁ => ?_)
  refine wpAny_bind (wpAny_setField_rec hi₁ (by simp) fun h₂ hi₂ hs₂ => ?_)
  refine wpAny_pure (h h₂ ?_ ⟨hs₂.1.trans hs₁.1, fun b hb => (hs₂.2 b hb).trans (hs₁.2 b hb)⟩)
  rw [hi₂]; rfl
theorem dqi_adv_end {i : Nat} {Q : Option Value → Shared → Prop} (hi : s.heap.get? I = some (dqI q i st 0)) (ho : s.heap.get? q = some (dqO st xs))
    (h : Q none s) : wpAny (model prog w) A (Builtin.DequeIter.advance (.ref I) 1) Q E s := by
  unfold Builtin.DequeIter.advance
  refine wpAny_bind (wpAny_field hi rfl (x := .ref q) rfl ?_)
  rw [if_neg (by decide)]
  refine wpAny_bind (dq_state ho ?_)
  refine wpAny_bind ?_
  unfold Builtin.DequeIter.raw
  refine wpAny_bind (wpAny_field hi rfl (x := .int st 0) rfl (wpAny_pure ?_))
  rw [if_neg (by simp)]
  refine wpAny_bind (wpAny_bind (wpAny_field hi rfl (x := .int 0 0) rfl (wpAny_pure ?_)))
  rw [if_pos (by simp)]
  exact wpAny_pure h
theorem dqi_next_item {i : Nat} {l : Int} {x : Value} {Q : Option Value → Shared → Prop} (hne : q ≠ I) (hi : s.heap.get? I = some (dqI q i st l)) (ho : s.heap.get? q = some (dqO st xs)) (hl : l ≠ 0) (hx : xs[i]? = some x)
    (h : ∀ h', h'.get? I = some (dqI q (i + 1) st (l - 1)) → Heap.SameBut I s.heap h' → Q (some x) { s with heap := h' }) : wpAny (model prog w) A (pyNext (.ref I)) Q E s := by
  have hT : s.TypeIs (.ref I) "collections._deque_iterator" := ⟨_, hi, rfl⟩
  unfold pyNext
  refine wpAny_bind (wpAny_attempt (wpAny_callSpecial?_slot (name := Str.ofString "__next__") hT slot_dqi_next
    (wpAny_call_entry slot_dqi_next hT entry_dqi_next ?_ (args_dqi_next _))))
  show wpAny _ _ (Builtin.DequeIter.advance (.ref I) 1 >>= _) _ _ s
  exact wpAny_bind (dqi_adv_item hne hi ho hl hx fun h' a b => wpAny_pure ⟨_, rfl, wpAny_pure (h h' a b)⟩)
theorem dqi_stop {Q : Fin → Shared → Prop} (hh : A.handled = none) (hE : ∀ h' e, (∀ b o, s.heap.get? b = some o → h'.get? b = some o) → (∃ o, h'.get? e = some o ∧ o.cls = .type "StopIteration") → E (.ref e) { s with heap := h' }) :
    wpAny (model prog w) A (newExc (.type "StopIteration") [] >>= fun e => raiseNew e) Q E s := by
  refine wpAny_bind ?_
  simp only [newExc, newTuple]
  refine wpAny_bind (wpAny_newObj_type ?_ (by size_fits))
  refine wpAny_bind (m := firstArgMember _ _) (wpAny_of_eq (a := Value.none) (by first | rfl | (simp only [firstArgMember]; rfl)) ?_)
  refine wpAny_newObj_type ?_ (by size_fits)
  simp only [raiseNew]
  refine wpAny_bind (wpAny_handled ?_)
  rw [hh]
  refine wpAny_bind (wpAny_pure (wpAny_throw ?_))
  exact hE _ _ (fun b o e => Heap.get?_push_of_some _ (Heap.get?_push_of_some _ e)) ⟨_, Heap.get?_push_size _ rfl, rfl⟩
theorem dqi_next_end {i : Nat} {Q : Option Value → Shared → Prop} (hh : A.handled = none) (hi : s.heap.get? I = some (dqI q i st 0)) (ho : s.heap.get? q = some (dqO st xs))
    (h : ∀ h', (∀ b o, s.heap.get? b = some o → h'.get? b = some o) → Q none { s with heap := h' }) : wpAny (model prog w) A (pyNext (.ref I)) Q E s := by
  have hT : s.TypeIs (.ref I) "collections._deque_iterator" := ⟨_, hi, rfl⟩
  unfold pyNext
  refine wpAny_bind (wpAny_attempt (wpAny_callSpecial?_slot (name := Str.ofString "__next__") hT slot_dqi_next
    (wpAny_call_entry slot_dqi_next hT entry_dqi_next ?_ (args_dqi_next _))))
  show wpAny _ _ (Builtin.DequeIter.advance (.ref I) 1 >>= _) _ _ s
  refine wpAny_bind (dqi_adv_end hi ho ?_)
  refine dqi_stop hh fun h' e hk hx => ?_
  obtain ⟨o, h1, h2⟩ := hx
  refine wpAny_bind (wpAny_isInstance (T := "StopIteration") (b := true) ⟨_, h1, h2⟩ isSubtype_stop ?_)
  exact wpAny_pure (h _ hk)
theorem walks_dq (hh : A.handled = none) (hne : q ≠ I) : Walks prog w A I [I, q] [I] xs.length (fun i v => xs[i]? = some v) (fun i h => h.get? I = some (dqI q i st ((xs.length : Int) - i)) ∧ h.get? q = some (dqO st xs)) where
  sub := fun b hb => by simp at hb; simp [hb]
  frame := fun _ _ _ hs hk => ⟨hk I (by simp) _ hs.1, hk q (by simp) _ hs.2⟩
  item := fun i s Q E hi hs hQ => by
    refine dqi_next_item hne hs.1 hs.2 (by omega) (x := xs[i]) (by simp [hi]) fun h' a b => ?_
    refine hQ _ h' s.toks (by simp [hi]) ⟨?_, (b.2 q hne).trans hs.2⟩ fun c o hc e => b.extBut c o (fun h => hc (by simp [h])) e
    rw [a]
    have e : ((xs.length : Int) - i - 1) = (xs.length : Int) - ((i + 1 : Nat) : Int) := by push_cast; omega
    rw [e]
  done := fun s Q E hs hQ => by
    have h1 := hs.1
    rw [Int.sub_self] at h1
    exact dqi_next_end hh h1 hs.2 fun h' hk => hQ h' s.toks fun b o _ e => hk b o e
  self := fun _ _ _ _ hs hQ => dqi_self hs.1 hQ
end
end
end Mine
namespace Mine
section
open PySem PySem.W PySem.Calls PyProof.Rows
set_option maxRecDepth 100000
section
variable {prog : Program} {w : World} {A : Around} {E : Value → Shared → Prop} {s : Shared} {q I : Addr} {st : Int} {xs : List Value}
theorem dq_hint {Q : Bool → Shared → Prop} (ho : s.heap.get? q = some (dqO st xs)) (hz : xs.length ≤ 100000) (h : ∀ b tk, Q b { s with toks := tk }) : wpAny (model prog w) A (Builtin.List.listLengthHint (.ref q)) Q E s := by
  have hT : s.TypeIs (.ref q) "collections.deque" := ⟨_, ho, rfl⟩
  unfold Builtin.List.listLengthHint
  refine wpAny_bind (wpAny_specialOf hT slot_dq_len.lookup ?_)
  generalize hid : ("collections.deque.__len__" : String) = id0
  wp_delta
  rw [show splitId id0 = some ("collections.deque", "__len__") from by subst hid; decide +kernel]
  subst hid
  refine wpAny_bind (wpAny_isInstance (T := "collections.deque") (b := true) hT sub_dq ?_)
  refine wpAny_ite_split (fun hab => absurd hab (by decide)) (fun _ => ?_)
  refine wpAny_ite_split (fun hab => absurd hab (by decide +kernel)) (fun _ => ?_)
  refine wpAny_ite_split (fun _ => ?_) (fun hab => absurd rfl hab)
  refine wpAny_bind (wpAny_rule ?_)
  refine wpAny_bind (wpAny_attempt (dq_len ho (by have : 100000 ≤ sizeLine := by decide
                                                  omega) fun t tk => ?_))
  refine wpAny_bind (m := asInt? _) (wpAny_pure ?_)
  have hlt : Builtin.List.listTooLong (xs.length : Int).toNat = false := by
    rw [Int.toNat_natCast]
    unfold Builtin.List.listTooLong
    have : 100000 ≤ sizeLine := by decide
    simp
    omega
  show wpAny _ _ (if Builtin.List.listTooLong (xs.length : Int).toNat = true then _ else _) _ _ _
  rw [hlt, if_neg Bool.false_ne_true]
  exact wpAny_pure (h _ _)
theorem dq_extend {R : Result → Shared → Prop} (hh : A.handled = none) (ho : s.heap.get? q = some (dqO st xs)) (S : Addr) (hSq : S ≠ q) (res : Value) (c₀ : Nat) (hS : s.heap.get? S = some { cls := .type "list", data := .seq #[] c₀ })
    (hR : ∀ h' tk acc' c', (∀ b o, b ≠ S → s.heap.get? b = some o → h'.get? b = some o) → h'.get? S = some { cls := .type "list", dict := none, data := .seq acc' c', slots := #[] } → ItemsOf (fun i v => xs[i]? = some v) acc' xs.length → R (.ok (.ret res)) { s with heap := h', toks := tk }) (hn : xs.length ≤ 100000) :
    wpAny (model prog w) A.in1 (Builtin.List.listExtendWith (.ref S) (.ref q) res)
      (fun fin s' => match fin with | .done f => R (.ok f) s' | .again c' => c'.quiet = true ∧ codeAny (model prog w) A c' R s') (fun e s' => R (.error e) s') s := by
  have hn' : xs.length ≤ sizeLine := by
    have : 100000 ≤ sizeLine := by decide
    omega
  have hSI : S ≠ s.heap.objs.size := Nat.ne_of_lt (Heap.lt_size hS)
  have hqI : q ≠ s.heap.objs.size := Nat.ne_of_lt (Heap.lt_size ho)
  have hSf : S ∉ [s.heap.objs.size, q] := by simp only [List.mem_cons, List.not_mem_nil, or_false, not_or]; exact ⟨hSI, hSq⟩
  have W := walks_dq (prog := prog) (w := w) (A := A.in1) (I := s.heap.objs.size) (st := st) (xs := xs) hh hqI
  have key : ∀ (h : Heap) (c₁ tk : Nat), (h.get? s.heap.objs.size = some (dqI q 0 st xs.length) ∧ h.get? q = some (dqO st xs)) → (∀ b o, b ≠ S → s.heap.get? b = some o → h.get? b = some o) →
      h.get? S = some { cls := .type "list", data := .seq #[] c₁ } → codeAny (model prog w) A (.builtin "list.extend.loop" ⟨[.ref S, .ref s.heap.objs.size, res], []⟩) R { s with heap := h, toks := tk } := by
    intro h c₁ tk hst hk hS₁
    refine codeAny_extend_loopS W.toS hn' S hSf res xs.length 0 _ #[] c₁ rfl (Nat.zero_le _) (by simpa using hst) hS₁ (ItemsOf.nil _) fun s' acc' c' hm hS' hacc => ?_
    rw [Moved.eq_with hm]
    refine hR s'.heap s'.toks acc' c' (fun b o hb e => hm.heap b o (fun hmem => ?_) (hk b o hb e)) hS' hacc
    rcases List.mem_cons.mp hmem with e' | hmem
    · exact hb e'
    · exact absurd (Heap.lt_size e) (by rw [List.mem_singleton.mp hmem]; exact Nat.lt_irrefl _)
  unfold Builtin.List.listExtendWith
  have hT : s.TypeIs (.ref q) "collections.deque" := ⟨_, ho, rfl⟩
  refine wpAny_bind (wpAny_typeOf hT ?_)
  have h1 : Builtin.List.listSameRef (.ref S) (.ref q) = false := by simp [Builtin.List.listSameRef, hSq]
  have h2 : (Value.type "collections.deque" == Value.type "list") = false := by decide
  have h3 : (Value.type "collections.deque" == Value.type "tuple") = false := by decide
  simp only [h1, h2, h3, Bool.or_false, Bool.false_eq_true, if_false]
  refine wpAny_bind (dq_iter ho ?_)
  have hS₁ := Heap.get?_push_of_some (dqI q 0 st xs.length) hS
  have ho₁ := Heap.get?_push_of_some (dqI q 0 st xs.length) ho
  have hI₁ : (s.heap.push (dqI q 0 st xs.length)).get? s.heap.objs.size = some (dqI q 0 st xs.length) := Heap.get?_push_size _ rfl
  refine wpAny_bind (wpAny_holding (dq_hint (s := { s with heap := s.heap.push (dqI q 0 st xs.length) }) ho₁ hn fun b tk => ?_))
  refine wpAny_ite_split (fun _ => ?_) (fun _ => wpAny_pure ⟨plainId_quiet PySem.F.plain_extend_loop _, key _ c₀ _ ⟨hI₁, ho₁⟩ (fun b o _ e => Heap.get?_push_of_some _ e) hS₁⟩)
  refine wpAny_bind (wpAny_rule ?_)
  refine wpAny_bind ?_
  show wpAny _ _ (updateSeq S (·.push .none) >>= fun _ => updateSeq S (·.pop)) _ _ _
  refine wpAny_bind (wpAny_updateSeq hS₁ rfl ?_)
  have hS₂ := Heap.get?_update_self (Obj.mapSeq (·.push Value.none)) hS₁ rfl
  refine wpAny_updateSeq (hz := by seq_fits) hS₂ rfl ?_
  have hS₃ := Heap.get?_update_self (Obj.mapSeq (·.pop)) hS₂ rfl
  have oth : ∀ b o, b ≠ S → (s.heap.push (dqI q 0 st xs.length)).get? b = some o → (((s.heap.push (dqI q 0 st xs.length)).update S (Obj.mapSeq (·.push Value.none))).update S (Obj.mapSeq (·.pop))).get? b = some o :=
    fun b o hb e => (Heap.get?_update_other _ _ (Ne.symm hb)).trans ((Heap.get?_update_other _ _ (Ne.symm hb)).trans e)
  refine wpAny_pure ⟨plainId_quiet PySem.F.plain_extend_loop _, key _ _ _ ⟨oth _ _ (Ne.symm hSI) hI₁, oth _ _ (Ne.symm hSq) ho₁⟩ (fun b o hb e => oth b o hb (Heap.get?_push_of_some _ e)) hS₃⟩
theorem dq_list {Q : Value → Shared → Prop} (hh : A.handled = none) (ho : s.heap.get? q = some (dqO st xs)) (hn : xs.length ≤ 100000)
    (hQ : ∀ h' tk c', (∀ b o, s.heap.get? b = some o → h'.get? b = some o) → h'.get? s.heap.objs.size = some (listOf xs.toArray c') → Q (.ref s.heap.objs.size) { s with heap := h', toks := tk }) :
    wpAny (model prog w) A (call (.type "list") [.ref q]) Q E s := by
  refine callType_codes (Q₁ := fun obj s₁ => obj = .ref s.heap.objs.size ∧ s₁ = { s with heap := s.heap.push { cls := .type "list", data := .seq #[] } }) PySem.F.called_list (PySem.F.typeCall_list_1 _) PySem.F.entry_list_init
    (code_list_new _ ⟨rfl, rfl⟩) fun obj s₁ h₁ => ?_
  obtain ⟨rfl, rfl⟩ := h₁
  have hS : (s.heap.push { cls := .type "list", data := .seq #[] }).get? s.heap.objs.size = some { cls := .type "list", data := .seq #[] } := Heap.get?_push_size _ rfl
  have hqS : s.heap.objs.size ≠ q := Nat.ne_of_gt (Heap.lt_size ho)
  refine ⟨⟨_, hS, rfl⟩, PySem.F.args_list_init_2 _ _, ?_⟩
  have hlt : ∀ b o, s.heap.get? b = some o → b ≠ s.heap.objs.size := fun b o e => Nat.ne_of_lt (Heap.lt_size e)
  generalize s.heap.objs.size = S at *
  show wpAny _ _ (do let old ← Builtin.List.listItems (.ref S); Builtin.List.listUpdate (.ref S) (fun _ => #[]); letGo old.toList.reverse; Builtin.List.listExtendWith (.ref S) (.ref q) .none) _ _ _
  refine wpAny_bind ?_
  unfold Builtin.List.listItems
  refine wpAny_bind (wpAny_seqItems hS rfl (wpAny_pure ?_))
  show wpAny _ _ (updateSeq S (fun _ => #[]) >>= fun _ => letGo (#[] : Array Value).toList.reverse >>= fun _ => Builtin.List.listExtendWith (.ref S) (.ref q) .none) _ _ _
  refine wpAny_bind (wpAny_updateSeq hS rfl ?_)
  have hS₂ := Heap.get?_update_self (Obj.mapSeq (fun _ => (#[] : Array Value))) hS rfl
  have oth : ∀ b o, b ≠ S → (s.heap.push { cls := .type "list", data := .seq #[] }).get? b = some o → ((s.heap.push { cls := .type "list", data := .seq #[] }).update S (Obj.mapSeq (fun _ => (#[] : Array Value)))).get? b = some o :=
    fun b o hb e => (Heap.get?_update_other _ _ (Ne.symm hb)).trans e
  refine wpAny_bind (wpAny_letGo ?_)
  refine dq_extend (A := A.in1) hh (oth _ _ (Ne.symm hqS) (Heap.get?_push_of_some _ ho)) S hqS .none _ hS₂ (fun h' tk acc' c' hk hS' hacc => ?_) hn
  refine ⟨rfl, ?_⟩
  have ea : acc' = xs.toArray := by
    apply Array.ext'
    apply List.ext_getElem?
    intro j
    by_cases hj : j < acc'.size
    · have h2 := hacc.2 j acc'[j] (Array.getElem?_eq_getElem hj)
      rw [Array.getElem?_toList, Array.getElem?_eq_getElem hj]
      simpa using h2.symm
    · have h3 := hacc.1
      rw [Array.getElem?_toList, Array.getElem?_eq_none (by omega)]
      simp; omega
  subst ea
  exact hQ h' tk c' (fun b o e => hk b o (hlt b o e) (oth b o (hlt b o e) (Heap.get?_push_of_some _ e))) hS'
theorem dq_list_K {h₀ : Heap} {L : Addr} {m : Str → Option Value} {news : List (Addr × Obj)} {Q : Value → Shared → Prop} (hh : A.handled = none) (F : Fr h₀ L s.heap m) (N : News h₀ L s.heap news) (hm : (q, dqO st xs) ∈ news) (hn : xs.length ≤ 100000)
    (h : ∀ D h' tk c', Fr h₀ L h' m → News h₀ L h' ((D, listOf xs.toArray c') :: news) → (∀ p ∈ news, p.1 < D) → Q (.ref D) { s with heap := h', toks := tk }) :
    wpAny (model prog w) A (call (.type "list") [.ref q]) Q E s :=
  dq_list hh (N _ hm).1 hn fun h' tk c' hk hD => h _ h' tk c' (F.keeps hk) (news_pushed F N hk hD rfl) fun p hp => Heap.lt_size (N p hp).1
theorem dq_len_K {h₀ : Heap} {L : Addr} {news : List (Addr × Obj)} {Q : Value → Shared → Prop} (N : News h₀ L s.heap news) (hm : (q, dqO st xs) ∈ news) (hn : xs.length ≤ 100000)
    (h : ∀ t tk, Q (.int xs.length t) { s with toks := tk }) : wpAny (model prog w) A (call (.builtin "len") [.ref q]) Q E s :=
  dq_len (N _ hm).1 (by have : 100000 ≤ sizeLine := by decide
                        omega) h
theorem plain_proto_index : plainId "proto.index" = true := by decide +kernel
theorem entry_proto_index : entryFor table "proto.index" = some Builtin.«proto.index» := entryFor_of_tree (by kernel_rfl)
theorem proto_index {i : Int} {t : Tok} {Q : Value → Shared → Prop} (h0 : 0 ≤ i) (hi : i < 2 ^ 63) (h : Q (.int i s.toks) { s with toks := s.toks + 1 }) :
    wpAny (model prog w) A (runValue (Code.builtin "proto.index" { pos := [Value.int i t] })) Q E s := by
  refine wpAny_runValue (codeAny_builtin entry_proto_index ?_)
  rw [Around.under_plainId plain_proto_index _]
  unfold Builtin.«proto.index»
  show wpAny _ _ (asIndex (.int i t) >>= _) _ _ _
  refine wpAny_bind ?_
  unfold asIndex
  refine wpAny_bind (m := asInt? _) (wpAny_pure ?_)
  refine wpAny_pure ?_
  have hc : (decide (i < -(2 ^ 63)) || decide (i ≥ 2 ^ 63)) = false := by simp; omega
  show wpAny _ _ (if (decide (i < -(2 ^ 63)) || decide (i ≥ 2 ^ 63)) = true then _ else retInt i) _ _ _
  rw [hc, if_neg Bool.false_ne_true]
  exact wpAny_bind (wpAny_mkInt (wpAny_pure h))
theorem lookup_dq_getitem : typeLookup (.type "collections.deque") (Str.ofString "__getitem__") = pure (some (.builtin "collections.deque.__getitem__")) := slot_dq_getitem.lookup
theorem dq_item {i : Int} {t : Tok} {x : Value} {Q : Value → Shared → Prop} (ho : s.heap.get? q = some (dqO st xs)) (h0 : 0 ≤ i) (hi : i < xs.length) (hz : xs.length ≤ 100000) (hx : xs[i.toNat]? = some x)
    (h : ∀ tk, Q x { s with toks := tk }) : wpAny (model prog w) A (getItem (.ref q) (.int i t)) Q E s := by
  have hT : s.TypeIs (.ref q) "collections.deque" := ⟨_, ho, rfl⟩
  have hT' : ∀ tk, Shared.TypeIs { s with toks := tk } (.ref q) "collections.deque" := fun _ => ⟨_, ho, rfl⟩
  unfold getItem
  refine wpAny_holding ?_
  refine wpAny_bind ?_
  unfold sequenceKey
  refine wpAny_bind (wpAny_typeOf hT ?_)
  refine wpAny_ite_split (fun hab => absurd hab (by decide)) (fun _ => ?_)
  refine wpAny_bind (wpAny_of_eq lookup_dq_getitem ?_)
  refine wpAny_ite_split (fun hab => absurd hab (by decide +kernel)) (fun _ => ?_)
  refine wpAny_bind (wpAny_specialOf (typeIs_int s i t) PySem.F.slot_int_index.lookup ?_)
  refine wpAny_ite_split (fun hab => absurd hab (by decide)) (fun _ => ?_)
  refine wpAny_bind (wpAny_rule ?_)
  refine proto_index h0 (by omega) ?_
  refine wpAny_bind (wpAny_callSpecial?_slot (hT' _) slot_dq_getitem (wpAny_call_entry slot_dq_getitem (hT' _) entry_dq_getitem ?_ (args_dq_getitem _ _)))
  show wpAny _ _ ((asIndex (.int i s.toks) >>= _) >>= _) _ _ _
  refine wpAny_bind (wpAny_bind ?_)
  unfold asIndex
  refine wpAny_bind (m := asInt? _) (wpAny_pure ?_)
  refine wpAny_pure ?_
  have hc : (decide (i ≥ 2 ^ 63) || decide (i < -(2 ^ 63))) = false := by simp; omega
  refine wpAny_ite_split (fun hab => absurd hab (by rw [hc]; exact Bool.false_ne_true)) (fun _ => ?_)
  refine wpAny_bind (dq_size (s := { s with toks := s.toks + 1 }) ho ?_)
  have hs : seqIndex? i xs.length = some i.toNat := by
    have hn : ¬ i < 0 := by omega
    simp [seqIndex?, hn, h0, hi]
  rw [hs]
  refine wpAny_pure ?_
  refine wpAny_bind (dq_items (s := { s with toks := s.toks + 1 }) ho ?_)
  have e : xs.toArray.getD i.toNat .none = x := by
    rw [Array.getD_eq_getD_getElem?]; simp [hx]
  rw [e]
  exact wpAny_pure ⟨_, rfl, wpAny_pure (h _)⟩
end
end
end Mine
namespace Mine
section
open PySem PySem.W PySem.Calls PyProof.Rows
set_option maxRecDepth 100000
set_option maxHeartbeats 4000000
local macro_rules | `(tactic| walk_at "own:pad0") => `(tactic| skip)
local macro_rules | `(tactic| walk_at "own:pad1") => `(tactic| skip)
local macro_rules | `(tactic| walk_at "own:pad2") => `(tactic| skip)
local macro_rules | `(tactic| walk_at "own:pad3") => `(tactic| skip)
local macro_rules | `(tactic| walk_at "own:pad4") => `(tactic| skip)
local macro_rules | `(tactic| walk_at "own:pad5") => `(tactic| skip)
local macro_rules | `(tactic| walk_at "own:pad6") => `(tactic| skip)
local macro_rules | `(tactic| walk_at "getMethod ref") => `(tactic| (k_here; (with_reducible show wpAny _ _ (getMethod (Value.ref _) (PySem.Str.ofString "clear") _) _ _ _); k_dflt (refine' dq_method_K ?N ?m slot_dq_clear type_dq_clear ?_; (case N => k_asm); (case m => k_mem); k_whole)))
local macro_rules | `(tactic| walk_at "getMethod ref") => `(tactic| (k_here; (with_reducible show wpAny _ _ (getMethod (Value.ref _) (PySem.Str.ofString "appendleft") _) _ _ _); k_dflt (refine' dq_method_K ?N ?m slot_dq_appendleft type_dq_appendleft ?_; (case N => k_asm); (case m => k_mem); k_whole)))
local macro_rules | `(tactic| walk_at "getMethod ref") => `(tactic| (k_here; (with_reducible show wpAny _ _ (getMethod (Value.ref _) (PySem.Str.ofString "pop") _) _ _ _); k_dflt (refine' dq_method_K ?N ?m slot_dq_pop type_dq_pop ?_; (case N => k_asm); (case m => k_mem); k_whole)))
local macro_rules | `(tactic| walk_at "call builtin:collections.deque.clear") => `(tactic| (k_here; k_dflt (refine' dq_clear_K ?k1 ?k2 ?k3 ?_; (case k1 => k_asm); (case k2 => k_asm); (case k3 => k_upd); k_whole); intro h' F' N'; (try k_sweep)))
local macro_rules | `(tactic| walk_at "call builtin:collections.deque.appendleft") => `(tactic| (k_here; k_dflt (refine' dq_appendleft_K ?k1 ?k2 ?k3 ?z ?_; (case k1 => k_asm); (case k2 => k_asm); (case k3 => k_upd); (case z => assumption); k_whole); intro h' F' N'; (try k_sweep)))
local macro_rules | `(tactic| walk_at "call builtin:collections.deque.pop") => `(tactic| (k_here; k_dflt (refine' dq_pop_K ?k1 ?k2 ?k3 ?z ?_; (case k1 => k_asm); (case k2 => k_asm); (case k3 => k_upd); (case z => assumption); k_whole); intro h' F' N'; (try k_sweep)))
local macro_rules | `(tactic| walk_at "call builtin:len") => `(tactic| (k_here; (with_reducible show wpAny _ _ (call (Value.builtin "len") [Value.bytes _ _]) _ _ _); (refine len_bytes (by omega) ?_)))
local macro_rules | `(tactic| k_clsL) => `(tactic| first | with_reducible assumption | (refine List.mem_cons_of_mem _ ?_; k_clsL))
local macro_rules | `(tactic| k_mem) => `(tactic| k_clsL)
set_option hygiene false in
local macro_rules | `(tactic| walk_at "own:enter") => `(tactic| (
  refine' code_def B0 F X N Tp rfl hf hke ?k6 ?k7 ?k8 ?k9 ?kB ?_ ?c2 ?c3 ?c4 ?c5
  (case k6 => k_is)
  (case k7 => k_is)
  (case k8 => k_room)
  (case k9 => exact BindsTo.of_eq rfl)
  (case c5 => decide)
  (case kB => exact locs rfl)
  (case c2 => exact rfl)
  (case c3 => exact rfl)
  (case c4 => exact rfl)
  intro g' L' h' FG' F' N' B' X' T'
  (try dsimp only)
  (try k_lift B')
  (try k_fold)))
local macro_rules | `(tactic| walk_at "binaryOp Mult bytes int") => `(tactic| (k_here; k_dflt (refine' bytes_mul_any (b := [118]) ?b ?lo ?hi ?ln ?_; (case b => simp); (case lo => omega); (case hi => omega); (case ln => decide); k_whole); intro t' k'; (try dsimp only)))
local macro_rules | `(tactic| walk_at "call type:collections.deque") => `(tactic| (k_here; k_dflt (refine' dq_new_K ?k1 ?k2 ?_; (case k1 => k_asm); (case k2 => k_asm); k_whole); intro q' h' F' N' l1; (try k_lt l1); (try k_sweep)))
def lawB : List Stmt := fnBody (st 13)
def forOf : Stmt → List Stmt
  | .For _ _ body _ _ => body
  | _ => []
def turnB : List Stmt := match lawB[4]? with | some s => forOf s | none => []
abbrev lawEnv (L fa : Addr) (cd : Value) : Env := envOf (Str.ofString "law") (fnScope (st 13)) L fa cd
section
variable {w : World} {A A₀ : Around} {E : Value → Shared → Prop} {s : Shared} {h₀ base : Heap} {L : Addr} {m mg mb : Str → Option Value} {env env2 : Env} {outer : List Env} {mean : ExcName → Option Value}
theorem ints_of : ∀ {zs : List Value} {ns : List Int}, zs.length = ns.length → (∀ (j : Nat) (y : Value), zs[j]? = some y → ∃ (n : Int) (t : Tok), ns[j]? = some n ∧ y = Value.int n t) → IntsAre zs ns
  | [], [], _, _ => .nil
  | z :: zs, n :: ns, hl, h => by
    obtain ⟨n', t, h1, rfl⟩ := h 0 z rfl
    cases h1
    exact .cons _ t (ints_of (by simpa using hl) fun j y hy => by simpa using h (j + 1) y (by simpa using hy))
  | [], _ :: _, hl, _ => by simp at hl
  | _ :: _, [], hl, _ => by simp at hl
theorem Fr.of_eq {h : Heap} {m m' : Str → Option Value} (F : Fr h₀ L h m) (e : m = m') : Fr h₀ L h m' := e ▸ F
theorem pick_dropLast (vs : List Value) : (slicePick vs.toArray none (some (-1)) none).toList = vs.dropLast := by
  have e : sliceBounds none (some (-1)) none vs.toArray.size = (((0 : Nat) : Int), ((vs.toArray.size - 1 : Nat) : Int), 1) := by
    simp only [sliceBounds, Option.getD_none, show (1 : Int) > 0 by decide, if_true, if_pos (show (-1 : Int) < 0 by decide)]
    congr 1
    congr 1
    omega
  rw [kmk_pick_nat _ e]
  simp [List.dropLast_eq_take]
theorem Pairs.dropLast {tl : List (Addr × Obj)} {xs : List Value} {ps : List Pr} (h : Pairs tl xs ps) : Pairs tl xs.dropLast ps.dropLast := by
  rw [List.dropLast_eq_take, List.dropLast_eq_take, h.len]
  exact h.take _
def lawM (T H : Addr) (gr : Int) (tg : Tok) (u : Str → Option Value) : Str → Option Value :=
  fun y => if y = Str.ofString "held" then some (.ref H) else if y = Str.ofString "greatest" then some (.int gr tg) else if y = Str.ofString "table" then some (.ref T) else u y
def HelJ (T : Addr) (gr : Int) (tg : Tok) (u : Str → Option Value) (hs₀ : List Pr) (nw : List (Addr × Obj)) (n : Nat) (m' : Str → Option Value) (news : List (Addr × Obj)) : Prop :=
  ∃ (ex : List (Addr × Obj)) (H : Addr) (hxs : List Value) (hs : List Pr) (c : Nat), news = ex ++ nw ∧ (∀ p ∈ ex, ∀ z ∈ nw, z.1 < p.1) ∧ (H, listOf hxs.toArray c) ∈ ex ++ nw ∧ Pairs nw hxs hs ∧ hs.length = n ∧ fit gr hs = fit gr hs₀ ∧ hxs.length ≤ 100000 ∧ (∀ p ∈ hs, p.1.size ≤ 100 ∧ p.2.size ≤ 100) ∧
    m' = lawM T H gr tg u
local macro_rules | `(tactic| walk_at "eval ListComp") => `(tactic| (k_here; k_dflt (refine LCg.ListComp_U (F₀ := by k_asm) (by with_unfolding_all rfl) (by decide) (by rfl) (by decide) (by rfl) (Hold.get ?comp))))
local macro_rules | `(tactic| walk_at "subscriptTail Name Slice ref ref") => `(tactic| (k_here; k_dflt (refine' kmk_slice_lit ?F ?N ?l ?p ?q (Hold.get ?e) ?_ ?s ?t ?z; (case F => k_asm); (case N => k_asm); (case l => kmk_list); (case p => kmk_part); (case q => kmk_part); (case s => with_unfolding_all rfl); (case t => kmk_pure); (case z => kmk_size)); intro D' h' F' N' l1))
local macro_rules | `(tactic| walk_at "execs cons") => `(tactic| (k_here; (with_reducible show wpAny _ _ (execs [Stmt.If _ _ _ _] _) _ _ _); refine' Hold.get ?fin))
set_option pp.deepTerms false in
set_option pp.maxSteps 2000 in
theorem rest_ctr {fa : Addr} {cd : Value} {Q : Flow → Shared → Prop} {nw : List (Addr × Obj)} {T H : Addr} {hxs : List Value} {c : Nat} {hs₀ : List Pr} {gr : Int} {tg : Tok} {u : Str → Option Value}
    (B0 : Below callerA base [] h₀) (F : Fr h₀ L s.heap (lawM T H gr tg u)) (X : (KK w.params).In h₀) (Tp : Top qv (looseW qv qloose) mean mg mb h₀)
    (N : News h₀ L s.heap nw) (hH : (H, listOf hxs.toArray c) ∈ nw) (hps : Pairs nw hxs hs₀) (hxs' : hxs.length ≤ 100000) (hsz : ∀ p ∈ hs₀, p.1.size ≤ 100 ∧ p.2.size ≤ 100) (hE : PassesOwn (model pw w) (callerA.deeper (lawEnv L fa cd)) (lawEnv L fa cd) E)
    (hgr : 0 ≤ gr)
    (hQ : ∀ h' tk H' hxs' c' ex, Fr h₀ L h' (lawM T H' gr tg u) → News h₀ L h' (ex ++ nw) → (∀ p ∈ ex, ∀ z ∈ nw, z.1 < p.1) → (H', listOf hxs'.toArray c') ∈ ex ++ nw → Pairs nw hxs' (fit gr hs₀) →
      wpAny (model pw w) (callerA.deeper (lawEnv L fa cd)) (execs (turnB.drop 4) (lawEnv L fa cd)) Q E { s with heap := h', toks := tk }) :
    wpAny (model pw w) (callerA.deeper (lawEnv L fa cd)) (execs (turnB.drop 3) (lawEnv L fa cd)) Q E s := by
  have law : PySem.Challenge.rw_ds0003_01 = PySem.Challenge.rw_ds0003_01 ∧ KK = KK := ⟨rfl, rfl⟩
  revert law
  k_fill
  intro law
  conv in (List.drop 3 turnB) => whnf
  iterate 1 (first | (k_unfold; (try dsimp only)) | walk1)
  refine While_inv2 (HelJ T gr tg u hs₀ nw) (n₀ := hs₀.length) F N ?J ?turn hE
  · exact ⟨[], H, hxs, hs₀, c, rfl, (fun p hp => nomatch hp), hH, hps, rfl, rfl, hxs', hsz, rfl⟩
  · rintro n m₁ news₁ h₁ tk₁ F₁ N₁ ⟨ex, H1, hx1, hs1, c1, rfl, hex, hH1, hp1, rfl, hf1, hl1, hz1, rfl⟩
    delta lawEnv at *
    unfold lawM at F₁
    k_steps
    case comp =>
      unfold Hold
      iterate 1 walk1
      refine LCg.CompSrc.ledger rfl F₁ N₁ hH1 (by simpa using Nat.le_trans hl1 (by decide)) fun g => ?_
      refine compRest_of (fun i y => ∃ p t, hs1[i]? = some p ∧ y = .int (psz p) t) (.inr ⟨_, hH1, rfl, _, rfl⟩) ?_ _ 0 [] rfl (by simp) ?_
      · intro i v I oI C oC D ys m₂ h tk E' hP hN hx F2 N2 hO hne
        obtain ⟨p, hpi, D1, td, td', rfl, hD1⟩ := hp1.get (by simpa using hP)
        have hz := hz1 p (List.mem_of_getElem? hpi)
        obtain ⟨hza, hzb⟩ := hz
        have hD2 : (D1, tupB p.1 td p.2 td') ∈ ex ++ nw := List.mem_append_right _ hD1
        k_steps
        · exact F2
        · exact N2
      · intro zs hzl hzs
        have hI : IntsAre zs (hs1.map psz) := ints_of (by have := hp1.len; simp at hzl; simp [hzl, this]) (fun j y hy => by obtain ⟨p, t, h1, h2⟩ := hzs j y hy; exact ⟨_, t, by simp [h1], h2⟩)
        have hsum : (hs1.map psz).sum = tot hs1 := rfl
        intro D5 h5 tk5 F5 N5 o5
        have hl5 := News.isList N5 (.head _)
        dsimp only
        k_steps
        · rename Fr h₀ L _ _ => F6
          rename News h₀ L _ _ => N6
          rename gr < _ => hlt
          refine kmk_slice_lit F6 N6 ?y1 ?y2 ?y3 (pick_dropLast hx1) ?_ ?y4 ?y5 ?y6
          case y1 => exact News.isList N6 (List.mem_cons_of_mem _ hH1)
          case y2 => kmk_part
          case y3 => kmk_part
          case y4 => with_unfolding_all rfl
          case y5 => kmk_pure
          case y6 => simpa using Nat.le_trans hl1 (by decide)
          intro D7 h7 F7 N7 l7
          have hne : hs1 ≠ [] := by rintro rfl; simp at hlt; omega
          have hlen : hs1.dropLast.length < hs1.length := by
            have : 0 < hs1.length := List.length_pos_iff.mpr hne
            simp; omega
          have hf7 : fit gr hs1.dropLast = fit gr hs1 := by
            rcases List.eq_nil_or_concat hs1 with rfl | ⟨l, b, rfl⟩
            · exact absurd rfl hne
            · rw [List.concat_eq_append] at *
              rw [List.dropLast_concat]; exact (fit_step hlt).symm
          have N8 : News h₀ L h7 (((D7, listOf hx1.dropLast.toArray 0) :: ex) ++ nw) := News.drop2 N7
          have hJ : HelJ T gr tg u hs₀ nw hs1.dropLast.length (lawM T D7 gr tg u) (((D7, listOf hx1.dropLast.toArray 0) :: ex) ++ nw) := by
            refine ⟨_, D7, hx1.dropLast, hs1.dropLast, 0, rfl, ?_, .head _, hp1.dropLast, rfl, hf7.trans hf1, ?_, ?_, rfl⟩
            · intro p hp z hz
              rcases List.mem_cons.mp hp with rfl | hp
              · exact l7 z (List.mem_cons_of_mem _ (List.mem_append_right _ hz))
              · exact hex p hp z hz
            · simp; omega
            · intro p hp; exact hz1 p (List.dropLast_subset _ hp)
          dsimp only
          k_steps
          rename Fr h₀ L _ _ => F9
          rename News h₀ L _ _ => N9
          refine ⟨_, _, lawM T D7 gr tg u, ((D7, listOf hx1.dropLast.toArray 0) :: ex) ++ nw, hs1.dropLast.length, rfl, ?_, ?_, hlen, hJ⟩
          · refine Fr.of_eq F9 ?_
            funext y
            unfold lawM
            by_cases hy : y = Str.ofString "held" <;> simp [hy]
          · exact N9
        case fin =>
          unfold Hold
          rename Fr h₀ L _ _ => F9
          rename News h₀ L _ _ => N9
          rename ¬ gr < _ => hlt
          have e9 : fit gr hs₀ = hs1 := hf1.symm.trans (fit_stop hlt)
          exact hQ _ _ H1 hx1 c1 ex F9 (fun p hp => N9 p (List.mem_cons_of_mem _ hp)) hex hH1 (by rw [e9]; exact hp1)
end
end
end Mine
namespace Mine
section
open PySem PySem.W PySem.Calls PyProof.Rows
set_option maxRecDepth 100000
set_option maxHeartbeats 4000000
local macro_rules | `(tactic| walk_at "own:pad0") => `(tactic| skip)
local macro_rules | `(tactic| walk_at "own:pad1") => `(tactic| skip)
local macro_rules | `(tactic| walk_at "own:pad2") => `(tactic| skip)
local macro_rules | `(tactic| walk_at "own:pad3") => `(tactic| skip)
local macro_rules | `(tactic| walk_at "own:pad4") => `(tactic| skip)
local macro_rules | `(tactic| walk_at "own:pad5") => `(tactic| skip)
local macro_rules | `(tactic| walk_at "own:pad6") => `(tactic| skip)
local macro_rules | `(tactic| walk_at "own:pad7") => `(tactic| skip)
local macro_rules | `(tactic| walk_at "own:pad8") => `(tactic| skip)
local macro_rules | `(tactic| walk_at "getMethod ref") => `(tactic| (k_here; (with_reducible show wpAny _ _ (getMethod (Value.ref _) (PySem.Str.ofString "clear") _) _ _ _); k_dflt (refine' dq_method_K ?N ?m slot_dq_clear type_dq_clear ?_; (case N => k_asm); (case m => k_mem); k_whole)))
local macro_rules | `(tactic| walk_at "getMethod ref") => `(tactic| (k_here; (with_reducible show wpAny _ _ (getMethod (Value.ref _) (PySem.Str.ofString "appendleft") _) _ _ _); k_dflt (refine' dq_method_K ?N ?m slot_dq_appendleft type_dq_appendleft ?_; (case N => k_asm); (case m => k_mem); k_whole)))
local macro_rules | `(tactic| walk_at "getMethod ref") => `(tactic| (k_here; (with_reducible show wpAny _ _ (getMethod (Value.ref _) (PySem.Str.ofString "pop") _) _ _ _); k_dflt (refine' dq_method_K ?N ?m slot_dq_pop type_dq_pop ?_; (case N => k_asm); (case m => k_mem); k_whole)))
local macro_rules | `(tactic| walk_at "call builtin:collections.deque.clear") => `(tactic| (k_here; k_dflt (refine' dq_clear_K ?k1 ?k2 ?k3 ?_; (case k1 => k_asm); (case k2 => k_asm); (case k3 => k_upd); k_whole); intro h' F' N'; (try k_sweep)))
local macro_rules | `(tactic| walk_at "call builtin:collections.deque.appendleft") => `(tactic| (k_here; k_dflt (refine' dq_appendleft_K ?k1 ?k2 ?k3 ?z ?_; (case k1 => k_asm); (case k2 => k_asm); (case k3 => k_upd); (case z => assumption); k_whole); intro h' F' N'; (try k_sweep)))
local macro_rules | `(tactic| walk_at "call builtin:collections.deque.pop") => `(tactic| (k_here; k_dflt (refine' dq_pop_K ?k1 ?k2 ?k3 ?z ?_; (case k1 => k_asm); (case k2 => k_asm); (case k3 => k_upd); (case z => assumption); k_whole); intro h' F' N'; (try k_sweep)))
local macro_rules | `(tactic| walk_at "call builtin:len") => `(tactic| (k_here; (with_reducible show wpAny _ _ (call (Value.builtin "len") [Value.bytes _ _]) _ _ _); (refine len_bytes (by omega) ?_)))
local macro_rules | `(tactic| k_clsL) => `(tactic| first | with_reducible assumption | (refine List.mem_cons_of_mem _ ?_; k_clsL))
local macro_rules | `(tactic| k_mem) => `(tactic| k_clsL)
set_option hygiene false in
local macro_rules | `(tactic| walk_at "own:enter") => `(tactic| (
  refine' code_def B0 F X N Tp rfl hf hke ?k6 ?k7 ?k8 ?k9 ?kB ?_ ?c2 ?c3 ?c4 ?c5
  (case k6 => k_is)
  (case k7 => k_is)
  (case k8 => k_room)
  (case k9 => exact BindsTo.of_eq rfl)
  (case c5 => decide)
  (case kB => exact locs rfl)
  (case c2 => exact rfl)
  (case c3 => exact rfl)
  (case c4 => exact rfl)
  intro g' L' h' FG' F' N' B' X' T'
  (try dsimp only)
  (try k_lift B')
  (try k_fold)))
local macro_rules | `(tactic| walk_at "binaryOp Mult bytes int") => `(tactic| (k_here; k_dflt (refine' bytes_mul_any (b := [118]) ?b ?lo ?hi ?ln ?_; (case b => simp); (case lo => omega); (case hi => omega); (case ln => decide); k_whole); intro t' k'; (try dsimp only)))
local macro_rules | `(tactic| walk_at "call type:collections.deque") => `(tactic| (k_here; k_dflt (refine' dq_new_K ?k1 ?k2 ?_; (case k1 => k_asm); (case k2 => k_asm); k_whole); intro q' h' F' N' l1; (try k_lt l1); (try k_sweep)))
section
variable {w : World} {A A₀ : Around} {E : Value → Shared → Prop} {s : Shared} {h₀ base : Heap} {L : Addr} {m mg mb : Str → Option Value} {env env2 : Env} {outer : List Env} {mean : ExcName → Option Value}
theorem up3 {x y z : Addr × Obj} {tl : List (Addr × Obj)} : ∀ p ∈ tl, p ∈ x :: y :: z :: tl := fun _ h => List.mem_cons_of_mem _ (List.mem_cons_of_mem _ (List.mem_cons_of_mem _ h))
theorem up4 {x y z v : Addr × Obj} {tl : List (Addr × Obj)} : ∀ p ∈ tl, p ∈ x :: y :: z :: v :: tl := fun _ h => List.mem_cons_of_mem _ (up3 _ h)
local macro_rules | `(tactic| walk_at "call type:list") => `(tactic| (k_here; k_dflt (refine' dq_list_K (by rfl) ?k1 ?k2 ?k3 ?k4 ?_; (case k1 => k_asm); (case k2 => k_asm); (case k3 => k_mem); (case k4 => assumption); k_whole); intro D' h' tk' c' F' N' l1; (try k_lt l1)))
local macro_rules | `(tactic| walk_at "compareOp NotEq ref ref") => `(tactic| (k_here; refine' Hold.get ?neq))
set_option pp.deepTerms false in
set_option pp.maxSteps 3000 in
theorem fin_ctr {fa : Addr} {cd : Value} {Q : Flow → Shared → Prop} {T d q H : Addr} {hxs xs : List Value} {c : Nat} {ps : List Pr} {gr cs st : Int} {tm tc t1 t2 t3 t4 tg : Tok} {rz : Bool} {tl : List (Addr × Obj)} {u : Str → Option Value}
    (B0 : Below callerA base [] h₀) (F : Fr h₀ L s.heap (lawM T H gr tg u)) (X : (KK w.params).In h₀) (Tp : Top qv (looseW qv qloose) mean mg mb h₀)
    (N : News h₀ L s.heap ((T, instObj 219 d) :: (d, tabD w.params q gr cs tm tc t1 t2 t3 t4 rz) :: (q, dqO st xs) :: tl))
    (ho : OwnOff tl [T, d, q]) (h1 : @Ne Nat d T) (h2 : @Ne Nat T q) (h3 : @Ne Nat d q)
    (hH : (H, listOf hxs.toArray c) ∈ tl) (hp1 : Pairs tl hxs ps) (hp2 : Pairs tl xs ps) (hxs' : xs.length ≤ 100000) (hE : PassesOwn (model pw w) (callerA.deeper (lawEnv L fa cd)) (lawEnv L fa cd) E)
    (hQ : ∀ h' tk D c', Fr h₀ L h' (lawM T H gr tg u) → News h₀ L h' ((D, listOf xs.toArray c') :: (T, instObj 219 d) :: (d, tabD w.params q gr cs tm tc t1 t2 t3 t4 rz) :: (q, dqO st xs) :: tl) → Q .next { s with heap := h', toks := tk }) :
    wpAny (model pw w) (callerA.deeper (lawEnv L fa cd)) (execs (turnB.drop 4) (lawEnv L fa cd)) Q E s := by
  have law : PySem.Challenge.rw_ds0003_01 = PySem.Challenge.rw_ds0003_01 ∧ KK = KK := ⟨rfl, rfl⟩
  revert law
  k_fill
  intro law
  conv in (List.drop 4 turnB) => whnf
  delta lawEnv at *
  unfold lawM at F
  k_steps
  case neq =>
    unfold Hold
    rename Fr h₀ L _ _ => F5
    rename News h₀ L _ _ => N5
    refine ne_lists N5 (News.isList N5 (.head _)) (News.isList N5 (up4 _ hH)) (hp2.mono up4) (hp1.mono up4) (by ke_room) ?_
    dsimp only
    k_steps
    · exfalso
      omega
    · rename Fr h₀ L _ _ => F5
      rename News h₀ L _ _ => N5
      exact hQ _ _ _ _ F5 N5
end
end
end Mine
namespace Mine
section
open PySem PySem.W PySem.Calls PyProof.Rows
set_option maxRecDepth 100000
/-- the standing rows: their references, their pairs -/
def statL : List Value := (List.range 61).map fun i => Value.ref (96 + i)
def prOf (o : Option Obj) : Pr := match o with
  | some o => match o.data with
    | .seq a _ => match a.toList with
      | [.bytes x _, .bytes y _] => (x, y)
      | _ => (#[], #[])
    | _ => (#[], #[])
  | none => (#[], #[])
def tkOf (o : Option Obj) : Tok × Tok := match o with
  | some o => match o.data with
    | .seq a _ => match a.toList with
      | [.bytes _ x, .bytes _ y] => (x, y)
      | _ => (0, 0)
    | _ => (0, 0)
  | none => (0, 0)
noncomputable def statP (P : Params) : List Pr := (List.range 61).map fun i => prOf ((KK P).lookup (96 + i))
theorem statL_len : statL.length = 61 := rfl
theorem statP_len (P : Params) : (statP P).length = 61 := by simp [statP]
theorem stat_tup {P : Params} {h : Heap} (X : (KK P).In h) : IsT h 157 statL.toArray 0 := X 157 _ (by kernel_rfl)
theorem stat_look (P : Params) : (List.range 61).map (fun i => (KK P).lookup (96 + i)) = (List.range 61).map fun i => some (tupB (prOf ((KK P).lookup (96 + i))).1 (tkOf ((KK P).lookup (96 + i))).1 (prOf ((KK P).lookup (96 + i))).2 (tkOf ((KK P).lookup (96 + i))).2) := by kernel_rfl
def PairH (h : Heap) (x : Value) (p : Pr) : Prop := ∃ D t t', x = .ref D ∧ h.IsTuple D #[.bytes p.1 t, .bytes p.2 t']
theorem PairH.keeps {h h' : Heap} {x : Value} {p : Pr} (a : PairH h x p) (hk : ∀ b o, h.get? b = some o → h'.get? b = some o) : PairH h' x p := by
  obtain ⟨D, t, t', e, o, ho, r⟩ := a
  exact ⟨D, t, t', e, o, hk _ _ ho, r⟩
theorem stat_pair {P : Params} {h : Heap} (X : (KK P).In h) {i : Nat} {x : Value} (hx : statL[i]? = some x) : ∃ p, (statP P)[i]? = some p ∧ PairH h x p := by
  have hi : i < 61 := by
    have := List.getElem?_eq_some_iff.mp hx
    obtain ⟨h1, _⟩ := this
    exact h1
  have l := List.map_inj_left.mp (stat_look P) i (by simpa using hi)
  have hx' : x = .ref (96 + i) := by
    simp [statL, hi] at hx
    exact hx.symm
  refine ⟨prOf ((KK P).lookup (96 + i)), by simp [statP, hi], 96 + i, (tkOf ((KK P).lookup (96 + i))).1, (tkOf ((KK P).lookup (96 + i))).2, hx', _, X _ _ l, rfl, _, rfl⟩
/-- rows of a list: which pairs they are -/
def RowsH (h : Heap) (xs : List Value) (ps : List Pr) : Prop := xs.length = ps.length ∧ ∀ (i : Nat) (x : Value), xs[i]? = some x → ∃ p, ps[i]? = some p ∧ PairH h x p
theorem RowsH.keeps {h h' : Heap} {xs : List Value} {ps : List Pr} (a : RowsH h xs ps) (hk : ∀ b o, h.get? b = some o → h'.get? b = some o) : RowsH h' xs ps :=
  ⟨a.1, fun i x hx => by obtain ⟨p, h1, h2⟩ := a.2 i x hx; exact ⟨p, h1, h2.keeps hk⟩⟩
theorem RowsH.append {h : Heap} {xs ys : List Value} {ps qs : List Pr} (a : RowsH h xs ps) (b : RowsH h ys qs) : RowsH h (xs ++ ys) (ps ++ qs) := by
  refine ⟨by simp [a.1, b.1], fun i x hx => ?_⟩
  by_cases hi : i < xs.length
  · rw [List.getElem?_append_left hi] at hx
    rw [List.getElem?_append_left (a.1 ▸ hi)]
    exact a.2 i x hx
  · rw [List.getElem?_append_right (Nat.not_lt.mp hi)] at hx
    rw [List.getElem?_append_right (a.1 ▸ Nat.not_lt.mp hi), ← a.1]
    exact b.2 _ x hx
theorem stat_rows {P : Params} {h : Heap} (X : (KK P).In h) : RowsH h statL (statP P) := ⟨by rw [statL_len, statP_len], fun _ _ hx => stat_pair X hx⟩
theorem Pairs.rows {h₀ h : Heap} {L : Addr} {tl nw : List (Addr × Obj)} {xs : List Value} {ps : List Pr} (N : News h₀ L h nw) (hs : ∀ p ∈ tl, p ∈ nw) (a : Pairs tl xs ps) : RowsH h xs ps :=
  ⟨a.len, fun i x hx => by
    obtain ⟨p, h1, h2⟩ := a.get hx
    exact ⟨p, h1, PairAt.tup (fun q hq => N q (hs q hq)) h2⟩⟩
theorem stat_no0 (P : Params) : ((statP P).map fun p => p.1.toList == []) = List.replicate 61 false := by kernel_rfl
theorem stat_no1 (P : Params) : ((statP P).map fun p => p.1.toList == [97]) = List.replicate 61 false := by kernel_rfl
theorem stat_no2 (P : Params) : ((statP P).map fun p => p.1.toList == [98, 99]) = List.replicate 61 false := by kernel_rfl
theorem stat_date (P : Params) : ((statP P).map fun p => p.1.toList == [100, 97, 116, 101]) = List.replicate 32 false ++ true :: List.replicate 28 false := by kernel_rfl
theorem stat_age (P : Params) : ((statP P).map fun p => p.1.toList == [97, 103, 101]) = List.replicate 20 false ++ true :: List.replicate 40 false := by kernel_rfl
theorem stat_date_v (P : Params) : (statP P)[32]? = some (#[100, 97, 116, 101], #[]) := by kernel_rfl
theorem stat_age_v (P : Params) : (statP P)[20]? = some (#[97, 103, 101], #[]) := by kernel_rfl
end
end Mine
namespace Mine
section
open PySem PySem.W PySem.Calls PyProof.Rows
set_option maxRecDepth 100000
section
variable {prog : Program} {w : World} {A : Around} {E : Value → Shared → Prop} {s : Shared} {h₀ : Heap} {L : Addr} {m : Str → Option Value} {news : List (Addr × Obj)}
theorem sizeLine_ge : 100000 ≤ sizeLine := by decide
theorem add_KK {a b : Addr} {xs ys : List Value} {c c' : Nat} {Q : Value → Shared → Prop} (F : Fr h₀ L s.heap m) (N : News h₀ L s.heap news) (ha : (a, listOf xs.toArray c) ∈ news) (hb : (b, listOf ys.toArray c') ∈ news) (hz : xs.length + ys.length ≤ 100000)
    (h : ∀ D h', Fr h₀ L h' m → News h₀ L h' ((D, listOf (xs ++ ys).toArray 0) :: news) → (∀ p ∈ news, p.1 < D) → Q (.ref D) { s with heap := h' }) :
    wpAny (model prog w) A (binaryOp .Add (.ref a) (.ref b)) Q E s := by
  have := sizeLine_ge
  refine add_arrays (hsz := by simp; omega) F N (News.isList N ha) (News.isList N hb) fun h' F' N' => h _ h' F' ?_ fun p hp => Heap.lt_size (N p hp).1
  simpa using N'
theorem len_KK {a : Addr} {xs : List Value} {c : Nat} {Q : Value → Shared → Prop} (N : News h₀ L s.heap news) (ha : (a, listOf xs.toArray c) ∈ news) (hz : xs.length ≤ 100000)
    (h : ∀ t tk, Q (.int xs.length t) { s with toks := tk }) : wpAny (model prog w) A (call (.builtin "len") [.ref a]) Q E s := by
  have hl := News.isList N ha
  refine Calls.call_len_list hl (by simp; omega) ?_
  have e : ((xs.toArray.size : Nat) : Int) = (xs.length : Int) := by simp
  rw [e]; exact h _ _
theorem item_KK {value slice : PySem.Expr} {a : Addr} {xs : List Value} {c : Nat} {k : Int} {u : Tok} {Q : Value → Shared → Prop} (N : News h₀ L s.heap news) (ha : (a, listOf xs.toArray c) ∈ news) (h0 : 0 ≤ k) (h1 : k < xs.length) (hz : xs.length ≤ 100000)
    (h : ∀ v, xs[k.toNat]? = some v → Q v s)
    (hs : subscripted slice false (.ref a) (.int k u) = operate [.ref a, .int k u] (getItem (.ref a) (.int k u)) := by with_unfolding_all rfl) :
    wpAny (model prog w) A (subscriptTail value slice (.ref a) (.int k u)) Q E s := by
  have hl := News.isList N ha
  have hx : xs[k.toNat]? = some (xs[k.toNat]'(by omega)) := List.getElem?_eq_getElem _
  exact tail_any hl.typeIs slot_list_getitem.lookup (wpAny_getItem_list hl h0 (by omega) (by simpa using hx) (h _ hx)) hs
theorem ditem_KK {value slice : PySem.Expr} {a : Addr} {xs : List Value} {st k : Int} {u : Tok} {Q : Value → Shared → Prop} (N : News h₀ L s.heap news) (ha : (a, dqO st xs) ∈ news) (h0 : 0 ≤ k) (h1 : k < xs.length) (hz : xs.length ≤ 100000)
    (h : ∀ v tk, xs[k.toNat]? = some v → Q v { s with toks := tk })
    (hs : subscripted slice false (.ref a) (.int k u) = operate [.ref a, .int k u] (getItem (.ref a) (.int k u)) := by with_unfolding_all rfl) :
    wpAny (model prog w) A (subscriptTail value slice (.ref a) (.int k u)) Q E s := by
  have hT : s.TypeIs (.ref a) "collections.deque" := ⟨_, (N _ ha).1, rfl⟩
  have hx : xs[k.toNat]? = some (xs[k.toNat]'(by omega)) := List.getElem?_eq_getElem _
  exact tail_any hT slot_dq_getitem.lookup (dq_item (N _ ha).1 h0 h1 hz hx fun tk => h _ tk hx) hs
theorem sitem_KK {value slice : PySem.Expr} {P : Params} {k : Int} {u : Tok} {Q : Value → Shared → Prop} (F : Fr h₀ L s.heap m) (X : (KK P).In h₀) (h0 : 0 ≤ k) (h1 : k < 61)
    (h : ∀ v, statL[k.toNat]? = some v → Q v s)
    (hs : subscripted slice false (.ref 157) (.int k u) = operate [.ref 157, .int k u] (getItem (.ref 157) (.int k u)) := by with_unfolding_all rfl) :
    wpAny (model prog w) A (subscriptTail value slice (.ref 157) (.int k u)) Q E s := by
  have ht : IsT s.heap 157 statL.toArray 0 := F.keep _ _ (stat_tup X)
  have hx : statL[k.toNat]? = some (statL[k.toNat]'(by rw [statL_len]; omega)) := List.getElem?_eq_getElem _
  have hi : seqIndex? k statL.toArray.size = some k.toNat := by
    have hn : ¬ k < 0 := by omega
    have : statL.toArray.size = 61 := rfl
    rw [this]
    simp [seqIndex?, hn, h0, h1]
  exact tail_any (T := "tuple") ⟨_, ht, rfl⟩ PySem.F.slot_tuple_getitem.lookup (PySem.P.getItem_tuple ht (by omega) (by omega) hi (by simpa using hx) (h _ hx)) hs
end
end
end Mine
namespace Mine
section
open PySem PySem.W PySem.Calls PyProof.Rows
set_option maxRecDepth 100000
set_option maxHeartbeats 4000000
local macro_rules | `(tactic| walk_at "own:pad0") => `(tactic| skip)
local macro_rules | `(tactic| walk_at "own:pad1") => `(tactic| skip)
local macro_rules | `(tactic| walk_at "own:pad2") => `(tactic| skip)
local macro_rules | `(tactic| walk_at "own:pad3") => `(tactic| skip)
local macro_rules | `(tactic| walk_at "own:pad4") => `(tactic| skip)
local macro_rules | `(tactic| walk_at "own:pad5") => `(tactic| skip)
local macro_rules | `(tactic| walk_at "getMethod ref") => `(tactic| (k_here; (with_reducible show wpAny _ _ (getMethod (Value.ref _) (PySem.Str.ofString "clear") _) _ _ _); k_dflt (refine' dq_method_K ?N ?m slot_dq_clear type_dq_clear ?_; (case N => k_asm); (case m => k_mem); k_whole)))
local macro_rules | `(tactic| walk_at "getMethod ref") => `(tactic| (k_here; (with_reducible show wpAny _ _ (getMethod (Value.ref _) (PySem.Str.ofString "appendleft") _) _ _ _); k_dflt (refine' dq_method_K ?N ?m slot_dq_appendleft type_dq_appendleft ?_; (case N => k_asm); (case m => k_mem); k_whole)))
local macro_rules | `(tactic| walk_at "getMethod ref") => `(tactic| (k_here; (with_reducible show wpAny _ _ (getMethod (Value.ref _) (PySem.Str.ofString "pop") _) _ _ _); k_dflt (refine' dq_method_K ?N ?m slot_dq_pop type_dq_pop ?_; (case N => k_asm); (case m => k_mem); k_whole)))
local macro_rules | `(tactic| walk_at "call builtin:collections.deque.clear") => `(tactic| (k_here; k_dflt (refine' dq_clear_K ?k1 ?k2 ?k3 ?_; (case k1 => k_asm); (case k2 => k_asm); (case k3 => k_upd); k_whole); intro h' F' N'; (try k_sweep)))
local macro_rules | `(tactic| walk_at "call builtin:collections.deque.appendleft") => `(tactic| (k_here; k_dflt (refine' dq_appendleft_K ?k1 ?k2 ?k3 ?z ?_; (case k1 => k_asm); (case k2 => k_asm); (case k3 => k_upd); (case z => assumption); k_whole); intro h' F' N'; (try k_sweep)))
local macro_rules | `(tactic| walk_at "call builtin:collections.deque.pop") => `(tactic| (k_here; k_dflt (refine' dq_pop_K ?k1 ?k2 ?k3 ?z ?_; (case k1 => k_asm); (case k2 => k_asm); (case k3 => k_upd); (case z => assumption); k_whole); intro h' F' N'; (try k_sweep)))
local macro_rules | `(tactic| walk_at "call builtin:len") => `(tactic| (k_here; (with_reducible show wpAny _ _ (call (Value.builtin "len") [Value.bytes _ _]) _ _ _); (refine len_bytes (by omega) ?_)))
local macro_rules | `(tactic| k_clsL) => `(tactic| first | with_reducible assumption | (refine List.mem_cons_of_mem _ ?_; k_clsL))
local macro_rules | `(tactic| k_mem) => `(tactic| k_clsL)
set_option hygiene false in
local macro_rules | `(tactic| walk_at "own:enter") => `(tactic| (
  refine' code_def B0 F X N Tp rfl hf hke ?k6 ?k7 ?k8 ?k9 ?kB ?_ ?c2 ?c3 ?c4 ?c5
  (case k6 => k_is)
  (case k7 => k_is)
  (case k8 => k_room)
  (case k9 => exact BindsTo.of_eq rfl)
  (case c5 => decide)
  (case kB => exact locs rfl)
  (case c2 => exact rfl)
  (case c3 => exact rfl)
  (case c4 => exact rfl)
  intro g' L' h' FG' F' N' B' X' T'
  (try dsimp only)
  (try k_lift B')
  (try k_fold)))
local macro_rules | `(tactic| walk_at "binaryOp Mult bytes int") => `(tactic| (k_here; k_dflt (refine' bytes_mul_any (b := [118]) ?b ?lo ?hi ?ln ?_; (case b => simp); (case lo => omega); (case hi => omega); (case ln => decide); k_whole); intro t' k'; (try dsimp only)))
local macro_rules | `(tactic| walk_at "call type:collections.deque") => `(tactic| (k_here; k_dflt (refine' dq_new_K ?k1 ?k2 ?_; (case k1 => k_asm); (case k2 => k_asm); k_whole); intro q' h' F' N' l1; (try k_lt l1); (try k_sweep)))
local macro_rules | `(tactic| walk_at "binaryOp Add ref ref") => `(tactic| (k_here; k_dflt (refine' add_KK ?F ?N ?a ?b ?z ?_; (case F => k_asm); (case N => k_asm); (case a => k_mem); (case b => k_mem); (case z => (first | omega | (simp only [List.length_cons, List.length_nil]; omega))); k_whole); intro D' h' F' N' l1; (try k_lt l1)))
local macro_rules | `(tactic| walk_at "call builtin:len") => `(tactic| (k_here; (with_reducible show wpAny _ _ (call (Value.builtin "len") [Value.ref _]) _ _ _); k_dflt (refine' dq_len_K ?N ?a ?z ?_; (case N => k_asm); (case a => k_mem); (case z => omega); k_whole); intro t' tk'))
local macro_rules | `(tactic| walk_at "call builtin:len") => `(tactic| (k_here; (with_reducible show wpAny _ _ (call (Value.builtin "len") [Value.ref _]) _ _ _); k_dflt (refine' len_KK ?N ?a ?z ?_; (case N => k_asm); (case a => k_mem); (case z => (first | omega | (simp only [List.length_append]; omega))); k_whole); intro t' tk'; (try simp only [List.length_append, List.length_cons, statL_len])))
local macro_rules | `(tactic| walk_at "subscriptTail") => `(tactic| (k_here; (with_reducible show wpAny _ _ (subscriptTail _ _ (Value.ref _) (Value.int _ _)) _ _ _); k_dflt (refine' item_KK ?N ?a ?b ?c ?z ?_ ?s; (case N => k_asm); (case a => k_mem); (case b => omega); (case c => (first | omega | (simp only [List.length_append, statL_len]; omega))); (case z => (first | omega | (simp only [List.length_append, statL_len]; omega))); (case s => with_unfolding_all rfl); k_whole); intro v' hv'))
local macro_rules | `(tactic| walk_at "subscriptTail") => `(tactic| (k_here; (with_reducible show wpAny _ _ (subscriptTail _ _ (Value.ref _) (Value.int _ _)) _ _ _); k_dflt (refine' ditem_KK ?N ?a ?b ?c ?z ?_ ?s; (case N => k_asm); (case a => k_mem); (case b => omega); (case c => omega); (case z => omega); (case s => with_unfolding_all rfl); k_whole); intro v' tk' hv'))
local macro_rules | `(tactic| walk_at "subscriptTail") => `(tactic| (k_here; (with_reducible show wpAny _ _ (subscriptTail _ _ (Value.ref 157) (Value.int _ _)) _ _ _); k_dflt (refine' sitem_KK ?N ?a ?b ?c ?_ ?s; (case N => k_asm); (case a => k_asm); (case b => omega); (case c => omega); (case s => with_unfolding_all rfl); k_whole); intro v' hv'))
def ifOf : Option Stmt → List Stmt × List Stmt
  | some (.If _ a b _) => (a, b)
  | _ => ([], [])
def deeds : List (List Stmt) :=
  let d0 := ifOf turnB[2]?
  let d1 := ifOf d0.2.head?
  let d2 := ifOf d1.2.head?
  [d0.1, d1.1, d2.1, d2.2]
def deedB (k : Nat) : List Stmt := match deeds[k]? with | some x => x | none => []
section
variable {w : World} {A A₀ : Around} {E : Value → Shared → Prop} {s : Shared} {h₀ base : Heap} {L : Addr} {m mg mb : Str → Option Value} {env env2 : Env} {outer : List Env} {mean : ExcName → Option Value}
def lawU (Sd : Addr) (u : Str → Option Value) : Str → Option Value := fun y => if y = Str.ofString "standing" then some (.ref Sd) else u y
theorem lawM_of {T H Sd : Addr} {gr : Int} {tg : Tok} {m : Str → Option Value} (h1 : m (Str.ofString "held") = some (.ref H)) (h2 : m (Str.ofString "greatest") = some (.int gr tg)) (h3 : m (Str.ofString "table") = some (.ref T)) (h4 : m (Str.ofString "standing") = some (.ref Sd)) :
    m = lawM T H gr tg (lawU Sd m) := by
  funext y
  unfold lawM lawU
  by_cases e1 : y = Str.ofString "held"
  · subst e1; rw [if_pos rfl]; exact h1
  · rw [if_neg e1]
    by_cases e2 : y = Str.ofString "greatest"
    · subst e2; rw [if_pos rfl]; exact h2
    · rw [if_neg e2]
      by_cases e3 : y = Str.ofString "table"
      · subst e3; rw [if_pos rfl]; exact h3
      · rw [if_neg e3]
        by_cases e4 : y = Str.ofString "standing"
        · subst e4; rw [if_pos rfl]; exact h4
        · rw [if_neg e4]
theorem ne_rows {x y : Value} {p : Pr} {Q : Value → Shared → Prop} {prog : Program} (ha : PairH s.heap x p) (hb : PairH s.heap y p) (hu : A.units + 64 < cLine) (h : Q (.bool false) s) : wpAny (model prog w) A (compareOp .NotEq x y) Q E s := by
  obtain ⟨D, t, t', rfl, hD⟩ := ha
  obtain ⟨D', u, u', rfl, hD'⟩ := hb
  refine ne_pair hD hD' (by omega) ?_
  rw [prEq_self]; exact h
theorem cons_own {T d q D : Addr} {o : Obj} {tl : List (Addr × Obj)} (h : T < D ∧ d < D ∧ q < D ∧ AllLt D tl) (ho : OwnOff tl [T, d, q]) : OwnOff ([(D, o)] ++ tl) [T, d, q] := by
  intro p hp
  rcases List.mem_cons.mp hp with rfl | hp
  · intro b hb
    simp only [List.mem_cons, List.not_mem_nil, or_false] at hb
    rcases hb with rfl | rfl | rfl
    · exact Nat.ne_of_gt h.1
    · exact Nat.ne_of_gt h.2.1
    · exact Nat.ne_of_gt h.2.2.1
  · exact ho p hp
local macro_rules | `(tactic| walk_at "noteFrame ref") => `(tactic| (k_here; (rename RaisedK _ _ _ _ _ _ _ _ => rkX); k_dflt (refine' caught_O0 (bmB := [.type "Exception", .type "BaseException", .type "object"]) (newId := "Exception.__new__") ?K ?F ?U ?R ?X ?T ?ex ?q ?hb ?_; (case K => assumption); (case F => assumption); (case U => assumption); (case R => exact rkX); (case X => k_asm); (case T => k_asm); (case ex => k_is); (case q => k_exc); (case hb => rfl); k_whole); intro h' n₂ F' N₂ G' N'; (try k_sweep)))
local macro_rules | `(tactic| walk_at "compareOp NotEq ref ref") => `(tactic| (k_here; refine' Hold.get ?neq))
set_option pp.deepTerms false in
set_option pp.maxSteps 3000 in
theorem deed2_ctr {fa : Addr} {cd : Value} {Q : Flow → Shared → Prop} {T d q H Sd : Addr} {hxs xs : List Value} {c cS : Nat} {ps : List Pr} {k gr cs st : Int} {tk₀ tm tc t1 t2 t3 t4 tg : Tok} {rz : Bool} {tl : List (Addr × Obj)} {u : Str → Option Value}
    (B0 : Below callerA h₀ [] h₀) (F : Fr h₀ L s.heap (fun y => if y = Str.ofString "more" then some (.int k tk₀) else lawM T H gr tg (lawU Sd u) y)) (X : (KK w.params).In h₀) (Tp : Top qv (looseW qv qloose) mean mg mb h₀)
    (N : News h₀ L s.heap ((T, instObj 219 d) :: (d, tabD w.params q gr cs tm tc t1 t2 t3 t4 rz) :: (q, dqO st xs) :: tl))
    (ho : OwnOff tl [T, d, q]) (h1 : @Ne Nat d T) (h2 : @Ne Nat T q) (h3 : @Ne Nat d q)
    (hH : (H, listOf hxs.toArray c) ∈ tl) (hS : (Sd, listOf statL.toArray cS) ∈ tl) (hp1 : Pairs tl hxs ps) (hp2 : Pairs tl xs ps) (hxs' : xs.length ≤ 1000)
    (hQ : ∀ h' tk u' ex, Fr h₀ L h' (lawM T H gr tg (lawU Sd u')) → News h₀ L h' ((T, instObj 219 d) :: (d, tabD w.params q gr cs tm tc t1 t2 t3 t4 rz) :: (q, dqO st xs) :: (ex ++ tl)) → OwnOff (ex ++ tl) [T, d, q] → Q .next { s with heap := h', toks := tk }) :
    wpAny (model pw w) (callerA.deeper (lawEnv L fa cd)) (execs (deedB 2) (lawEnv L fa cd)) Q (fun _ _ => False) s := by
  have law : PySem.Challenge.rw_ds0003_01 = PySem.Challenge.rw_ds0003_01 ∧ KK = KK := ⟨rfl, rfl⟩
  revert law
  k_fill
  intro law
  conv in (deedB 2) => whnf
  delta lawEnv at *
  unfold lawM lawU at F
  have hlen1 : hxs.length = ps.length := hp1.len
  have hlen2 : xs.length = ps.length := hp2.len
  have hlenS : statL.length = 61 := statL_len
  k_steps
  · rename statL[_]? = some _ => hv1
    rename (statL ++ hxs)[_]? = some _ => hv2
    rename _ - 1 < 61 => hlt
    rename Fr h₀ L _ _ => F5
    rw [List.getElem?_append_left (by rw [statL_len]; omega), hv1] at hv2
    cases hv2
    obtain ⟨p, _, hP⟩ := stat_pair X hv1
    have hP := hP.keeps F5.keep
    refine ne_rows hP hP (by ke_room) ?_
    try dsimp only
    k_steps
    rename Fr h₀ L _ _ => F9
    rename News h₀ L _ (_ :: (T, _) :: _) => N9
    rename T < _ ∧ _ => l9
    exact hQ _ _ _ [_] (Fr.of_eq F9 (lawM_of rfl rfl rfl rfl)) (News.rot4 N9) (cons_own l9 ho)
  · rename xs[_]? = some _ => hv1
    rename (statL ++ hxs)[_]? = some _ => hv2
    rename ¬ _ - 1 < 61 => hlt
    rename Fr h₀ L _ _ => F5
    rename News h₀ L _ (_ :: (T, _) :: _) => N5
    rw [List.getElem?_append_right (by rw [statL_len]; omega), statL_len, show (k.fmod 71 - 1).toNat - 61 = (k.fmod 71 - 1 - 61).toNat by omega] at hv2
    obtain ⟨p, hp, hA⟩ := hp2.get hv1
    obtain ⟨p', hp', hB⟩ := hp1.get hv2
    rw [hp] at hp'
    cases hp'
    have hA := PairAt.tup (fun z hz => N5 z (up4 z hz)) hA
    have hB := PairAt.tup (fun z hz => N5 z (up4 z hz)) hB
    refine ne_rows hA hB (by ke_room) ?_
    try dsimp only
    k_steps
    rename Fr h₀ L _ _ => F9
    rename News h₀ L _ (_ :: (T, _) :: _) => N9
    rename T < _ ∧ _ => l9
    exact hQ _ _ _ [_] (Fr.of_eq F9 (lawM_of rfl rfl rfl rfl)) (News.rot4 N9) (cons_own l9 ho)
  · rename Fr h₀ L _ _ => F9
    rename News h₀ L _ (_ :: (T, _) :: _) => N9
    rename T < _ ∧ _ => l9
    exact hQ _ _ _ [_] (Fr.of_eq F9 (lawM_of rfl rfl rfl rfl)) (News.rot4 N9) (cons_own l9 ho)
  · rename Fr h₀ L _ _ => F9
    rename News h₀ L _ (_ :: (T, _) :: _) => N9
    rename T < _ ∧ _ => l9
    exact hQ _ _ _ [_] (Fr.of_eq F9 (lawM_of rfl rfl rfl rfl)) (News.rot4 N9) (cons_own l9 ho)
end
end
end Mine
namespace Mine
section
open PySem PySem.W PySem.Calls PyProof.Rows
set_option maxRecDepth 100000
set_option maxHeartbeats 4000000
local macro_rules | `(tactic| walk_at "own:pad0") => `(tactic| skip)
local macro_rules | `(tactic| walk_at "own:pad1") => `(tactic| skip)
local macro_rules | `(tactic| walk_at "own:pad2") => `(tactic| skip)
local macro_rules | `(tactic| walk_at "own:pad3") => `(tactic| skip)
local macro_rules | `(tactic| walk_at "own:pad4") => `(tactic| skip)
local macro_rules | `(tactic| walk_at "own:pad5") => `(tactic| skip)
local macro_rules | `(tactic| walk_at "own:pad6") => `(tactic| skip)
local macro_rules | `(tactic| walk_at "getMethod ref") => `(tactic| (k_here; (with_reducible show wpAny _ _ (getMethod (Value.ref _) (PySem.Str.ofString "clear") _) _ _ _); k_dflt (refine' dq_method_K ?N ?m slot_dq_clear type_dq_clear ?_; (case N => k_asm); (case m => k_mem); k_whole)))
local macro_rules | `(tactic| walk_at "getMethod ref") => `(tactic| (k_here; (with_reducible show wpAny _ _ (getMethod (Value.ref _) (PySem.Str.ofString "appendleft") _) _ _ _); k_dflt (refine' dq_method_K ?N ?m slot_dq_appendleft type_dq_appendleft ?_; (case N => k_asm); (case m => k_mem); k_whole)))
local macro_rules | `(tactic| walk_at "getMethod ref") => `(tactic| (k_here; (with_reducible show wpAny _ _ (getMethod (Value.ref _) (PySem.Str.ofString "pop") _) _ _ _); k_dflt (refine' dq_method_K ?N ?m slot_dq_pop type_dq_pop ?_; (case N => k_asm); (case m => k_mem); k_whole)))
local macro_rules | `(tactic| walk_at "call builtin:collections.deque.clear") => `(tactic| (k_here; k_dflt (refine' dq_clear_K ?k1 ?k2 ?k3 ?_; (case k1 => k_asm); (case k2 => k_asm); (case k3 => k_upd); k_whole); intro h' F' N'; (try k_sweep)))
local macro_rules | `(tactic| walk_at "call builtin:collections.deque.appendleft") => `(tactic| (k_here; k_dflt (refine' dq_appendleft_K ?k1 ?k2 ?k3 ?z ?_; (case k1 => k_asm); (case k2 => k_asm); (case k3 => k_upd); (case z => assumption); k_whole); intro h' F' N'; (try k_sweep)))
local macro_rules | `(tactic| walk_at "call builtin:collections.deque.pop") => `(tactic| (k_here; k_dflt (refine' dq_pop_K ?k1 ?k2 ?k3 ?z ?_; (case k1 => k_asm); (case k2 => k_asm); (case k3 => k_upd); (case z => assumption); k_whole); intro h' F' N'; (try k_sweep)))
local macro_rules | `(tactic| walk_at "call builtin:len") => `(tactic| (k_here; (with_reducible show wpAny _ _ (call (Value.builtin "len") [Value.bytes _ _]) _ _ _); (refine len_bytes (by omega) ?_)))
local macro_rules | `(tactic| k_clsL) => `(tactic| first | with_reducible assumption | (refine List.mem_cons_of_mem _ ?_; k_clsL))
local macro_rules | `(tactic| k_mem) => `(tactic| k_clsL)
set_option hygiene false in
local macro_rules | `(tactic| walk_at "own:enter") => `(tactic| (
  refine' code_def B0 F X N Tp rfl hf hke ?k6 ?k7 ?k8 ?k9 ?kB ?_ ?c2 ?c3 ?c4 ?c5
  (case k6 => k_is)
  (case k7 => k_is)
  (case k8 => k_room)
  (case k9 => exact BindsTo.of_eq rfl)
  (case c5 => decide)
  (case kB => exact locs rfl)
  (case c2 => exact rfl)
  (case c3 => exact rfl)
  (case c4 => exact rfl)
  intro g' L' h' FG' F' N' B' X' T'
  (try dsimp only)
  (try k_lift B')
  (try k_fold)))
local macro_rules | `(tactic| walk_at "binaryOp Mult bytes int") => `(tactic| (k_here; k_dflt (refine' bytes_mul_any (b := [118]) ?b ?lo ?hi ?ln ?_; (case b => simp); (case lo => omega); (case hi => omega); (case ln => decide); k_whole); intro t' k'; (try dsimp only)))
local macro_rules | `(tactic| walk_at "call type:collections.deque") => `(tactic| (k_here; k_dflt (refine' dq_new_K ?k1 ?k2 ?_; (case k1 => k_asm); (case k2 => k_asm); k_whole); intro q' h' F' N' l1; (try k_lt l1); (try k_sweep)))
local macro_rules | `(tactic| walk_at "binaryOp Add ref ref") => `(tactic| (k_here; k_dflt (refine' add_KK ?F ?N ?a ?b ?z ?_; (case F => k_asm); (case N => k_asm); (case a => k_mem); (case b => k_mem); (case z => (first | omega | (simp only [List.length_cons, List.length_nil]; omega))); k_whole); intro D' h' F' N' l1; (try k_lt l1)))
local macro_rules | `(tactic| walk_at "call builtin:len") => `(tactic| (k_here; (with_reducible show wpAny _ _ (call (Value.builtin "len") [Value.ref _]) _ _ _); k_dflt (refine' dq_len_K ?N ?a ?z ?_; (case N => k_asm); (case a => k_mem); (case z => omega); k_whole); intro t' tk'))
local macro_rules | `(tactic| walk_at "call builtin:len") => `(tactic| (k_here; (with_reducible show wpAny _ _ (call (Value.builtin "len") [Value.ref _]) _ _ _); k_dflt (refine' len_KK ?N ?a ?z ?_; (case N => k_asm); (case a => k_mem); (case z => (first | omega | (simp only [List.length_append]; omega))); k_whole); intro t' tk'; (try simp only [List.length_append, List.length_cons, statL_len])))
local macro_rules | `(tactic| walk_at "subscriptTail") => `(tactic| (k_here; (with_reducible show wpAny _ _ (subscriptTail _ _ (Value.ref _) (Value.int _ _)) _ _ _); k_dflt (refine' item_KK ?N ?a ?b ?c ?z ?_ ?s; (case N => k_asm); (case a => k_mem); (case b => omega); (case c => (first | omega | (simp only [List.length_append, statL_len]; omega))); (case z => (first | omega | (simp only [List.length_append, statL_len]; omega))); (case s => with_unfolding_all rfl); k_whole); intro v' hv'))
local macro_rules | `(tactic| walk_at "subscriptTail") => `(tactic| (k_here; (with_reducible show wpAny _ _ (subscriptTail _ _ (Value.ref _) (Value.int _ _)) _ _ _); k_dflt (refine' ditem_KK ?N ?a ?b ?c ?z ?_ ?s; (case N => k_asm); (case a => k_mem); (case b => omega); (case c => omega); (case z => omega); (case s => with_unfolding_all rfl); k_whole); intro v' tk' hv'))
local macro_rules | `(tactic| walk_at "subscriptTail") => `(tactic| (k_here; (with_reducible show wpAny _ _ (subscriptTail _ _ (Value.ref 157) (Value.int _ _)) _ _ _); k_dflt (refine' sitem_KK ?N ?a ?b ?c ?_ ?s; (case N => k_asm); (case a => k_asm); (case b => omega); (case c => omega); (case s => with_unfolding_all rfl); k_whole); intro v' hv'))
section
variable {w : World} {A A₀ : Around} {E : Value → Shared → Prop} {s : Shared} {h₀ base : Heap} {L : Addr} {m mg mb : Str → Option Value} {env env2 : Env} {outer : List Env} {mean : ExcName → Option Value}
theorem allLt_of {D : Addr} : ∀ {l : List (Addr × Obj)}, (∀ p ∈ l, p.1 < D) → AllLt D l
  | [], _ => trivial
  | _ :: _, h => ⟨h _ (.head _), allLt_of fun p hp => h p (.tail _ hp)⟩
theorem own_app {T d q : Addr} {ex tl : List (Addr × Obj)} (h : ∀ p ∈ ex, p.1 ≠ T ∧ p.1 ≠ d ∧ p.1 ≠ q) (ho : OwnOff tl [T, d, q]) : OwnOff (ex ++ tl) [T, d, q] := by
  intro p hp
  rcases List.mem_append.mp hp with hp | hp
  · intro b hb
    simp only [List.mem_cons, List.not_mem_nil, or_false] at hb
    rcases hb with rfl | rfl | rfl
    · exact (h p hp).1
    · exact (h p hp).2.1
    · exact (h p hp).2.2
  · exact ho p hp
local macro_rules | `(tactic| walk_at "call ref") => `(tactic| (k_here; (with_reducible show wpAny _ _ (call (Value.ref 792) _ _) _ _ _); k_dflt (refine' wpAny_call (Hold.get ?pairc); k_whole)))
local macro_rules | `(tactic| walk_at "call ref") => `(tactic| (k_here; (with_reducible show wpAny _ _ (call (Value.ref 185) _ _) _ _ _); k_dflt (refine' wpAny_call (Hold.get ?addc); k_whole)))
set_option pp.deepTerms false in
set_option pp.maxSteps 3000 in
theorem deed0_ctr {fa : Addr} {cd : Value} {Q : Flow → Shared → Prop} {T d q H Sd : Addr} {hxs xs : List Value} {c : Nat} {ps : List Pr} {k gr st : Int} {tk₀ tm tc t1 t2 t3 t4 tg : Tok} {rz : Bool} {tl : List (Addr × Obj)} {u : Str → Option Value}
    (B0 : Below callerA h₀ [] h₀) (F : Fr h₀ L s.heap (fun y => if y = Str.ofString "more" then some (.int k tk₀) else lawM T H gr tg (lawU Sd u) y)) (X : (KK w.params).In h₀) (Tp : Top qv (looseW qv qloose) mean mg mb h₀)
    (N : News h₀ L s.heap ((T, instObj 219 d) :: (d, tabD w.params q gr (tot ps) tm tc t1 t2 t3 t4 rz) :: (q, dqO st xs) :: tl))
    (ho : OwnOff tl [T, d, q]) (h1 : @Ne Nat d T) (h2 : @Ne Nat T q) (h3 : @Ne Nat d q) (hgr : 0 ≤ gr) (hsz : ∀ p ∈ ps, p.1.size ≤ 100 ∧ p.2.size ≤ 100)
    (hH : (H, listOf hxs.toArray c) ∈ tl) (hp1 : Pairs tl hxs ps) (hp2 : Pairs tl xs ps) (hxs' : xs.length ≤ 1000)
    (hQ : ∀ h' tk u' tc' st' xs' H' hxs' c' ex, Fr h₀ L h' (lawM T H' gr tg (lawU Sd u')) → News h₀ L h' ((T, instObj 219 d) :: (d, tabD w.params q gr (tot (fit gr ((lname k, lval k) :: ps))) tm tc' t1 t2 t3 t4 rz) :: (q, dqO st' xs') :: (ex ++ tl)) → OwnOff (ex ++ tl) [T, d, q] →
      (H', listOf (hxs' : List Value).toArray c') ∈ ex ++ tl → Pairs (ex ++ tl) hxs' ((lname k, lval k) :: ps) → Pairs (ex ++ tl) xs' (fit gr ((lname k, lval k) :: ps)) → Q .next { s with heap := h', toks := tk }) :
    wpAny (model pw w) (callerA.deeper (lawEnv L fa cd)) (execs (deedB 0) (lawEnv L fa cd)) Q (fun _ _ => False) s := by
  have law : PySem.Challenge.rw_ds0003_01 = PySem.Challenge.rw_ds0003_01 ∧ KK = KK := ⟨rfl, rfl⟩
  revert law
  k_fill
  intro law
  conv in (deedB 0) => whnf
  delta lawEnv at *
  unfold lawM lawU at F
  have hlen1 : hxs.length = ps.length := hp1.len
  have hlen2 : xs.length = ps.length := hp2.len
  have hsl := sizeLine_ge
  k_steps
  case pairc =>
    unfold Hold
    rename Fr h₀ L _ _ => F5
    refine pair_ctr B0 F5 X Tp rfl rfl N ?_
    intro h5 tk5 D5 tn tv F6 N6 l6
    have N6 := News.rot4 N6
    dsimp only
    k_steps
    case addc =>
      unfold Hold
      rename Fr h₀ L _ _ => F7
      rename News h₀ L _ _ => N7
      have l7 : T < D5 ∧ d < D5 ∧ q < D5 ∧ AllLt D5 tl := ⟨l6 _ (.head _), l6 _ (.tail _ (.head _)), l6 _ (.tail _ (.tail _ (.head _))), allLt_of fun p hp => l6 p (up3 p hp)⟩
      have ho7 : OwnOff ((D5, tupB (lname k) tn (lval k) tv) :: tl) [T, d, q] := cons_own l7 ho
      refine add_ctr B0 F7 X Tp rfl rfl N7 ho7 h1 h2 h3 (by omega) hgr (hp2.mono fun p hp => List.mem_cons_of_mem _ hp) hsz (by have := lname_size k; omega) (by have := lval_size k; omega) ?_
      intro h8 tk8 tc8 st8 xs8 ex8 F8 N8 hex8 hp8 hl8
      have hH8 : (H, listOf hxs.toArray c) ∈ ex8 ++ (D5, tupB (lname k) tn (lval k) tv) :: tl := List.mem_append_right _ (List.mem_cons_of_mem _ hH)
      have hD8 : (D5, tupB (lname k) tn (lval k) tv) ∈ ex8 ++ (D5, tupB (lname k) tn (lval k) tv) :: tl := List.mem_append_right _ (.head _)
      have ho8 : OwnOff (ex8 ++ (D5, tupB (lname k) tn (lval k) tv) :: tl) [T, d, q] := own_app (fun p hp => ⟨(hex8 p hp).1, (hex8 p hp).2.1, (hex8 p hp).2.2.1⟩) ho7
      generalize htl8 : ex8 ++ (D5, tupB (lname k) tn (lval k) tv) :: tl = tl8 at *
      dsimp only
      k_steps
      rename Fr h₀ L _ _ => F9
      rename News h₀ L _ _ => N9
      rename _ < _ ∧ T < _ ∧ d < _ ∧ q < _ ∧ AllLt _ tl8 => l9
      have N9 := News.rot4 (News.drop2 N9)
      have hsub : ∀ p ∈ (D5, tupB (lname k) tn (lval k) tv) :: tl, p ∈ tl8 := fun p hp => htl8 ▸ List.mem_append_right _ hp
      have e9 : tl8 = (ex8 ++ [(D5, tupB (lname k) tn (lval k) tv)]) ++ tl := by rw [← htl8]; simp
      subst e9
      refine hQ _ _ _ _ _ xs8 _ (.ref D5 :: hxs) _ ((_, _) :: (ex8 ++ [(D5, tupB (lname k) tn (lval k) tv)])) (Fr.of_eq F9 (lawM_of rfl rfl rfl rfl)) N9 (cons_own l9.2 ho8) (.head _) ?_ ?_
      · exact ⟨⟨D5, tn, tv, rfl, List.mem_cons_of_mem _ hD8⟩, hp1.mono fun p hp => List.mem_cons_of_mem _ (hsub p (List.mem_cons_of_mem _ hp))⟩
      · exact hp8.mono fun p hp => List.mem_cons_of_mem _ hp
end
end
end Mine
namespace Mine
section
open PySem PySem.W PySem.Calls PyProof.Rows
set_option maxRecDepth 100000
set_option maxHeartbeats 4000000
local macro_rules | `(tactic| walk_at "own:pad0") => `(tactic| skip)
local macro_rules | `(tactic| walk_at "getMethod ref") => `(tactic| (k_here; (with_reducible show wpAny _ _ (getMethod (Value.ref _) (PySem.Str.ofString "clear") _) _ _ _); k_dflt (refine' dq_method_K ?N ?m slot_dq_clear type_dq_clear ?_; (case N => k_asm); (case m => k_mem); k_whole)))
local macro_rules | `(tactic| walk_at "getMethod ref") => `(tactic| (k_here; (with_reducible show wpAny _ _ (getMethod (Value.ref _) (PySem.Str.ofString "appendleft") _) _ _ _); k_dflt (refine' dq_method_K ?N ?m slot_dq_appendleft type_dq_appendleft ?_; (case N => k_asm); (case m => k_mem); k_whole)))
local macro_rules | `(tactic| walk_at "getMethod ref") => `(tactic| (k_here; (with_reducible show wpAny _ _ (getMethod (Value.ref _) (PySem.Str.ofString "pop") _) _ _ _); k_dflt (refine' dq_method_K ?N ?m slot_dq_pop type_dq_pop ?_; (case N => k_asm); (case m => k_mem); k_whole)))
local macro_rules | `(tactic| walk_at "call builtin:collections.deque.clear") => `(tactic| (k_here; k_dflt (refine' dq_clear_K ?k1 ?k2 ?k3 ?_; (case k1 => k_asm); (case k2 => k_asm); (case k3 => k_upd); k_whole); intro h' F' N'; (try k_sweep)))
local macro_rules | `(tactic| walk_at "call builtin:collections.deque.appendleft") => `(tactic| (k_here; k_dflt (refine' dq_appendleft_K ?k1 ?k2 ?k3 ?z ?_; (case k1 => k_asm); (case k2 => k_asm); (case k3 => k_upd); (case z => assumption); k_whole); intro h' F' N'; (try k_sweep)))
local macro_rules | `(tactic| walk_at "call builtin:collections.deque.pop") => `(tactic| (k_here; k_dflt (refine' dq_pop_K ?k1 ?k2 ?k3 ?z ?_; (case k1 => k_asm); (case k2 => k_asm); (case k3 => k_upd); (case z => assumption); k_whole); intro h' F' N'; (try k_sweep)))
local macro_rules | `(tactic| walk_at "call builtin:len") => `(tactic| (k_here; (with_reducible show wpAny _ _ (call (Value.builtin "len") [Value.bytes _ _]) _ _ _); (refine len_bytes (by omega) ?_)))
local macro_rules | `(tactic| k_clsL) => `(tactic| first | with_reducible assumption | (refine List.mem_cons_of_mem _ ?_; k_clsL))
local macro_rules | `(tactic| k_mem) => `(tactic| k_clsL)
set_option hygiene false in
local macro_rules | `(tactic| walk_at "own:enter") => `(tactic| (
  refine' code_def B0 F X N Tp rfl hf hke ?k6 ?k7 ?k8 ?k9 ?kB ?_ ?c2 ?c3 ?c4 ?c5
  (case k6 => k_is)
  (case k7 => k_is)
  (case k8 => k_room)
  (case k9 => exact BindsTo.of_eq rfl)
  (case c5 => decide)
  (case kB => exact locs rfl)
  (case c2 => exact rfl)
  (case c3 => exact rfl)
  (case c4 => exact rfl)
  intro g' L' h' FG' F' N' B' X' T'
  (try dsimp only)
  (try k_lift B')
  (try k_fold)))
local macro_rules | `(tactic| walk_at "binaryOp Mult bytes int") => `(tactic| (k_here; k_dflt (refine' bytes_mul_any (b := [118]) ?b ?lo ?hi ?ln ?_; (case b => simp); (case lo => omega); (case hi => omega); (case ln => decide); k_whole); intro t' k'; (try dsimp only)))
local macro_rules | `(tactic| walk_at "call type:collections.deque") => `(tactic| (k_here; k_dflt (refine' dq_new_K ?k1 ?k2 ?_; (case k1 => k_asm); (case k2 => k_asm); k_whole); intro q' h' F' N' l1; (try k_lt l1); (try k_sweep)))
local macro_rules | `(tactic| walk_at "binaryOp Add ref ref") => `(tactic| (k_here; k_dflt (refine' add_KK ?F ?N ?a ?b ?z ?_; (case F => k_asm); (case N => k_asm); (case a => k_mem); (case b => k_mem); (case z => (first | omega | (simp only [List.length_cons, List.length_nil]; omega))); k_whole); intro D' h' F' N' l1; (try k_lt l1)))
local macro_rules | `(tactic| walk_at "call builtin:len") => `(tactic| (k_here; (with_reducible show wpAny _ _ (call (Value.builtin "len") [Value.ref _]) _ _ _); k_dflt (refine' dq_len_K ?N ?a ?z ?_; (case N => k_asm); (case a => k_mem); (case z => omega); k_whole); intro t' tk'))
local macro_rules | `(tactic| walk_at "call builtin:len") => `(tactic| (k_here; (with_reducible show wpAny _ _ (call (Value.builtin "len") [Value.ref _]) _ _ _); k_dflt (refine' len_KK ?N ?a ?z ?_; (case N => k_asm); (case a => k_mem); (case z => (first | omega | (simp only [List.length_append]; omega))); k_whole); intro t' tk'; (try simp only [List.length_append, List.length_cons, statL_len])))
local macro_rules | `(tactic| walk_at "subscriptTail") => `(tactic| (k_here; (with_reducible show wpAny _ _ (subscriptTail _ _ (Value.ref _) (Value.int _ _)) _ _ _); k_dflt (refine' item_KK ?N ?a ?b ?c ?z ?_ ?s; (case N => k_asm); (case a => k_mem); (case b => omega); (case c => (first | omega | (simp only [List.length_append, statL_len]; omega))); (case z => (first | omega | (simp only [List.length_append, statL_len]; omega))); (case s => with_unfolding_all rfl); k_whole); intro v' hv'))
local macro_rules | `(tactic| walk_at "subscriptTail") => `(tactic| (k_here; (with_reducible show wpAny _ _ (subscriptTail _ _ (Value.ref _) (Value.int _ _)) _ _ _); k_dflt (refine' ditem_KK ?N ?a ?b ?c ?z ?_ ?s; (case N => k_asm); (case a => k_mem); (case b => omega); (case c => omega); (case z => omega); (case s => with_unfolding_all rfl); k_whole); intro v' tk' hv'))
local macro_rules | `(tactic| walk_at "subscriptTail") => `(tactic| (k_here; (with_reducible show wpAny _ _ (subscriptTail _ _ (Value.ref 157) (Value.int _ _)) _ _ _); k_dflt (refine' sitem_KK ?N ?a ?b ?c ?_ ?s; (case N => k_asm); (case a => k_asm); (case b => omega); (case c => omega); (case s => with_unfolding_all rfl); k_whole); intro v' hv'))
section
variable {w : World} {A A₀ : Around} {E : Value → Shared → Prop} {s : Shared} {h₀ base : Heap} {L : Addr} {m mg mb : Str → Option Value} {env env2 : Env} {outer : List Env} {mean : ExcName → Option Value}
local macro_rules | `(tactic| walk_at "setAttr ref") => `(tactic| (k_here; k_dflt (refine' set_prop ?k1 ?k2 ?k3 ?k4 ?k5 ?k6 ?k7 ?k8 (Hold.get ?setc); (case k1 => k_asm); (case k2 => k_asm); (case k3 => k_inst); (case k4 => k_is); (case k5 => k_is); (case k6 => k_is); (case k7 => k_is); (case k8 => k_is); k_whole)))
theorem fmod_lt256 (k : Int) : 0 ≤ k.fmod 256 ∧ k.fmod 256 < 256 := by
  have : k.fmod 256 = k % 256 := Int.fmod_eq_emod_of_nonneg k (by decide)
  omega
set_option pp.deepTerms false in
set_option pp.maxSteps 3000 in
theorem deed1_ctr {fa : Addr} {cd : Value} {Q : Flow → Shared → Prop} {T d q H Sd : Addr} {xs : List Value} {ps : List Pr} {k gr st : Int} {tk₀ tm tc t1 t2 t3 t4 tg : Tok} {rz : Bool} {tl : List (Addr × Obj)} {u : Str → Option Value}
    (B0 : Below callerA h₀ [] h₀) (F : Fr h₀ L s.heap (fun y => if y = Str.ofString "more" then some (.int k tk₀) else lawM T H gr tg (lawU Sd u) y)) (X : (KK w.params).In h₀) (Tp : Top qv (looseW qv qloose) mean mg mb h₀)
    (N : News h₀ L s.heap ((T, instObj 219 d) :: (d, tabD w.params q gr (tot ps) tm tc t1 t2 t3 t4 rz) :: (q, dqO st xs) :: tl))
    (ho : OwnOff tl [T, d, q]) (h1 : @Ne Nat d T) (h2 : @Ne Nat T q) (h3 : @Ne Nat d q) (hgr : 0 ≤ gr) (htot : tot ps ≤ gr) (hsz : ∀ p ∈ ps, p.1.size ≤ 100 ∧ p.2.size ≤ 100)
    (hp2 : Pairs tl xs ps) (hxs' : xs.length ≤ 1000)
    (hQ : ∀ h' tk u' tg' tm' tc' rz' st' xs', Fr h₀ L h' (lawM T H (k.fmod 256) tg' (lawU Sd u')) → News h₀ L h' ((T, instObj 219 d) :: (d, tabD w.params q (k.fmod 256) (tot (fit (k.fmod 256) ps)) tm' tc' t1 t2 t3 t4 rz') :: (q, dqO st' xs') :: tl) →
      Pairs tl xs' (fit (k.fmod 256) ps) → Q .next { s with heap := h', toks := tk }) :
    wpAny (model pw w) (callerA.deeper (lawEnv L fa cd)) (execs (deedB 1) (lawEnv L fa cd)) Q (fun _ _ => False) s := by
  have law : PySem.Challenge.rw_ds0003_01 = PySem.Challenge.rw_ds0003_01 ∧ KK = KK := ⟨rfl, rfl⟩
  revert law
  k_fill
  intro law
  conv in (deedB 1) => whnf
  delta lawEnv at *
  unfold lawM lawU at F
  have hsl := sizeLine_ge
  have hm := fmod_lt256 k
  k_steps
  case setc =>
    unfold Hold
    rename Fr h₀ L _ _ => F5
    rename News h₀ L _ _ => N5
    refine setm_ctr B0 F5 X Tp rfl rfl N5 ho h1 h2 h3 (by omega) hgr hm.1 htot hp2 hsz ?_
    intro h8 tk8 tm8 tc8 rz8 st8 xs8 F8 N8 hp8 hl8
    dsimp only
    k_steps
    rename Fr h₀ L _ _ => F9
    rename News h₀ L _ _ => N9
    exact hQ _ _ _ _ _ _ _ _ xs8 (Fr.of_eq F9 (lawM_of rfl rfl rfl rfl)) N9 hp8
end
end
end Mine
namespace Mine
section
open PySem PySem.W PySem.Calls PyProof.Rows
set_option maxRecDepth 100000
def selW (rs : List Pr) (p : Pr) (i : Nat) : Bool := match rs[i]? with | some r => prEq r p | none => false
def selN (rs : List Pr) (p : Pr) (i : Nat) : Bool := match rs[i]? with | some r => r.1.toList == p.1.toList | none => false
def firstI (sel : Nat → Bool) (n : Nat) : Option Nat := (List.range n).find? sel
/-- what a search should give: the place, and whether the value is there too -/
def foundD (rs : List Pr) (p : Pr) : Option (Int × Bool) :=
  match firstI (selW rs p) rs.length with
  | some i => some ((i : Int) + 1, true)
  | none => match firstI (selN rs p) rs.length with
    | some i => some ((i : Int) + 1, false)
    | none => none
theorem firstI_add (sel : Nat → Bool) (a b : Nat) : firstI sel (a + b) = (firstI sel a).or ((firstI (fun i => sel (a + i)) b).map (a + ·)) := by
  unfold firstI
  rw [List.range_add, List.find?_append, List.find?_map]
  congr 1
theorem selW_left {a b : List Pr} {p : Pr} {i : Nat} (h : i < a.length) : selW (a ++ b) p i = selW a p i := by unfold selW; rw [List.getElem?_append_left h]
theorem selN_left {a b : List Pr} {p : Pr} {i : Nat} (h : i < a.length) : selN (a ++ b) p i = selN a p i := by unfold selN; rw [List.getElem?_append_left h]
theorem selW_right {a b : List Pr} {p : Pr} {i : Nat} : selW (a ++ b) p (a.length + i) = selW b p i := by unfold selW; rw [List.getElem?_append_right (Nat.le_add_right _ _), Nat.add_sub_cancel_left]
theorem selN_right {a b : List Pr} {p : Pr} {i : Nat} : selN (a ++ b) p (a.length + i) = selN b p i := by unfold selN; rw [List.getElem?_append_right (Nat.le_add_right _ _), Nat.add_sub_cancel_left]
theorem firstI_congr {f g : Nat → Bool} {n : Nat} (h : ∀ i < n, f i = g i) : firstI f n = firstI g n := by
  unfold firstI
  induction n with
  | zero => rfl
  | succ n ih =>
    rw [List.range_succ, List.find?_append, List.find?_append, ih fun i hi => h i (Nat.lt_succ_of_lt hi)]
    congr 1
    simp only [List.find?_cons, List.find?_nil, h n (Nat.lt_succ_self n)]
theorem firstW (a b : List Pr) (p : Pr) : firstI (selW (a ++ b) p) (a ++ b).length = (firstI (selW a p) a.length).or ((firstI (selW b p) b.length).map (a.length + ·)) := by
  rw [List.length_append, firstI_add]
  rw [firstI_congr (f := selW (a ++ b) p) (g := selW a p) fun i hi => selW_left hi, firstI_congr (f := fun i => selW (a ++ b) p (a.length + i)) (g := selW b p) fun i _ => selW_right]
theorem firstN (a b : List Pr) (p : Pr) : firstI (selN (a ++ b) p) (a ++ b).length = (firstI (selN a p) a.length).or ((firstI (selN b p) b.length).map (a.length + ·)) := by
  rw [List.length_append, firstI_add]
  rw [firstI_congr (f := selN (a ++ b) p) (g := selN a p) fun i hi => selN_left hi, firstI_congr (f := fun i => selN (a ++ b) p (a.length + i)) (g := selN b p) fun i _ => selN_right]
theorem selN_of_selW {rs : List Pr} {p : Pr} {i : Nat} (h : selW rs p i = true) : selN rs p i = true := by
  unfold selW at h; unfold selN
  cases hr : rs[i]? with
  | none => rw [hr] at h; exact h
  | some r => rw [hr] at h; simp only at h ⊢; exact (Bool.and_eq_true_iff.mp h).1
/-- the loop over the newer ones -/
def srch (k : Nat) (ps : List Pr) (p : Pr) (part : Option (Int × Bool)) : Option (Int × Bool) :=
  match ps with
  | [] => part
  | r :: ps => if prEq r p then some ((k : Int) + 62, true) else srch (k + 1) ps p (if r.1.toList == p.1.toList then part.or (some ((k : Int) + 62, false)) else part)
def dynD (ps : List Pr) (p : Pr) (part : Option (Int × Bool)) : Option (Int × Bool) :=
  match firstI (selW ps p) ps.length with
  | some j => some ((j : Int) + 62, true)
  | none => part.or ((firstI (selN ps p) ps.length).map fun (j : Nat) => ((j : Int) + 62, false))
theorem firstI_zero (sel : Nat → Bool) : firstI sel 0 = none := rfl
theorem firstI_none {sel : Nat → Bool} {n : Nat} : firstI sel n = none ↔ ∀ i < n, sel i = false := by
  unfold firstI
  rw [List.find?_eq_none]
  simp
theorem firstI_succ (sel : Nat → Bool) (n : Nat) : firstI sel (n + 1) = (firstI sel n).or (if sel n then some n else none) := by
  unfold firstI
  rw [List.range_succ, List.find?_append]
  congr 1
  simp only [List.find?_cons, List.find?_nil]
  cases sel n <;> rfl
/-- the parts of the search over the first i newer ones -/
def partI (ps : List Pr) (p : Pr) (part : Option (Int × Bool)) (i : Nat) : Option (Int × Bool) := part.or ((firstI (selN ps p) i).map fun (j : Nat) => ((j : Int) + 62, false))
theorem partI_zero (ps : List Pr) (p : Pr) (part : Option (Int × Bool)) : partI ps p part 0 = part := by unfold partI; rw [firstI_zero]; simp
theorem partI_hit {ps : List Pr} {p r : Pr} {part : Option (Int × Bool)} {i : Nat} (hr : ps[i]? = some r) (hn : (r.1.toList == p.1.toList) = true) (h : partI ps p part i = none) : partI ps p part (i + 1) = some ((i : Int) + 62, false) := by
  unfold partI at h ⊢
  have hs : selN ps p i = true := by unfold selN; rw [hr]; exact hn
  rw [Option.or_eq_none_iff] at h
  obtain ⟨h1, h2⟩ := h
  rw [Option.map_eq_none_iff] at h2
  rw [firstI_succ, h1, h2, hs]; rfl
theorem partI_had {ps : List Pr} {p : Pr} {part : Option (Int × Bool)} {i : Nat} {x : Int × Bool} (h : partI ps p part i = some x) : partI ps p part (i + 1) = some x := by
  unfold partI at h ⊢
  rw [firstI_succ]
  cases part with
  | some y => simpa using h
  | none =>
    simp only [Option.none_or] at h ⊢
    obtain ⟨j, h1, h2⟩ := Option.map_eq_some_iff.mp h
    rw [h1]; simp [h2]
theorem partI_miss {ps : List Pr} {p r : Pr} {part : Option (Int × Bool)} {i : Nat} (hr : ps[i]? = some r) (hn : (r.1.toList == p.1.toList) = false) : partI ps p part (i + 1) = partI ps p part i := by
  unfold partI
  have hs : selN ps p i = false := by unfold selN; rw [hr]; exact hn
  rw [firstI_succ, hs]; simp
theorem dyn_hit {ps : List Pr} {p r : Pr} {part : Option (Int × Bool)} {i : Nat} (hb : ∀ j < i, selW ps p j = false) (hr : ps[i]? = some r) (he : prEq r p = true) : dynD ps p part = some ((i : Int) + 62, true) := by
  have hi : i < ps.length := (List.getElem?_eq_some_iff.mp hr).1
  have hs : selW ps p i = true := by unfold selW; rw [hr]; exact he
  have h1 : firstI (selW ps p) (i + 1) = some i := by rw [firstI_succ, firstI_none.mpr hb, hs]; rfl
  have h2 : firstI (selW ps p) ps.length = some i := by
    have : ps.length = (i + 1) + (ps.length - (i + 1)) := by omega
    rw [this, firstI_add, h1]; rfl
  unfold dynD; rw [h2]
theorem dyn_end {ps : List Pr} {p : Pr} {part : Option (Int × Bool)} (hb : ∀ j < ps.length, selW ps p j = false) : dynD ps p part = partI ps p part ps.length := by
  unfold dynD partI
  rw [firstI_none.mpr hb]
theorem found_split (a ps : List Pr) (p : Pr) (ha : a.length = 61) : foundD (a ++ ps) p = match firstI (selW a p) 61 with
    | some i => some ((i : Int) + 1, true)
    | none => dynD ps p ((firstI (selN a p) 61).map fun (i : Nat) => ((i : Int) + 1, false)) := by
  unfold foundD
  rw [firstW, firstN, ha]
  cases h1 : firstI (selW a p) 61 with
  | some i => rfl
  | none =>
    unfold dynD
    cases h2 : firstI (selW ps p) ps.length with
    | some j => simp; omega
    | none =>
      cases h3 : firstI (selN a p) 61 with
      | some i => rfl
      | none =>
        cases h4 : firstI (selN ps p) ps.length with
        | some j => simp; omega
        | none => rfl
section
variable (P : Params)
theorem sel_of_map {rs : List Pr} {n : List UInt8} {bs : List Bool} {p : Pr} (hp : p.1.toList = n) (h : (rs.map fun r => r.1.toList == n) = bs) (i : Nat) : selN rs p i = (bs[i]?).getD false := by
  unfold selN
  rw [← h, List.getElem?_map, hp]
  cases rs[i]? <;> rfl
theorem stat_absent {p : Pr} (h : p.1.toList = [] ∨ p.1.toList = [97] ∨ p.1.toList = [98, 99]) : firstI (selN (statP P) p) 61 = none := by
  rw [firstI_none]
  intro i hi
  have hd : ∀ i < 61, ((List.replicate 61 false)[i]?).getD false = false := by decide
  rcases h with h | h | h
  · rw [sel_of_map h (stat_no0 P)]; exact hd i hi
  · rw [sel_of_map h (stat_no1 P)]; exact hd i hi
  · rw [sel_of_map h (stat_no2 P)]; exact hd i hi
theorem none_of_N {rs : List Pr} {p : Pr} {n : Nat} (h : firstI (selN rs p) n = none) : firstI (selW rs p) n = none := by
  rw [firstI_none] at h ⊢
  intro i hi
  cases hw : selW rs p i with
  | false => rfl
  | true => exact absurd (selN_of_selW hw) (by rw [h i hi]; exact Bool.false_ne_true)
theorem stat_dateN {p : Pr} (h : p.1.toList = [100, 97, 116, 101]) : firstI (selN (statP P) p) 61 = some 32 := by
  rw [firstI_congr (g := fun i => ((List.replicate 32 false ++ true :: List.replicate 28 false)[i]?).getD false) fun i _ => sel_of_map h (stat_date P) i]; decide
theorem stat_ageN {p : Pr} (h : p.1.toList = [97, 103, 101]) : firstI (selN (statP P) p) 61 = some 20 := by
  rw [firstI_congr (g := fun i => ((List.replicate 20 false ++ true :: List.replicate 40 false)[i]?).getD false) fun i _ => sel_of_map h (stat_age P) i]; decide
theorem stat_whole {p r : Pr} {k : Nat} (hN : ∀ i < 61, selN (statP P) p i = (i == k)) (hk : k < 61) (hr : (statP P)[k]? = some r) : firstI (selW (statP P) p) 61 = if prEq r p then some k else none := by
  have hw : ∀ i < 61, selW (statP P) p i = (i == k && prEq r p) := by
    intro i hi
    by_cases e : i = k
    · subst e; simp [selW, hr]
    · have h1 := hN i hi
      have h2 : (i == k) = false := by simpa using e
      rw [h2] at h1 ⊢
      cases hw : selW (statP P) p i with
      | false => rfl
      | true => exact absurd (selN_of_selW hw) (by rw [h1]; exact Bool.false_ne_true)
  rw [firstI_congr hw]
  cases prEq r p with
  | false =>
    rw [if_neg Bool.false_ne_true, firstI_none]
    intro i _; simp
  | true =>
    rw [if_pos rfl]
    have h1 : firstI (fun i => i == k && true) k = none := firstI_none.mpr fun i hi => by simp; omega
    have h2 : firstI (fun i => i == k && true) (k + 1) = some k := by rw [firstI_succ, h1]; simp
    have : 61 = (k + 1) + (61 - (k + 1)) := by omega
    rw [this, firstI_add, h2]; rfl
theorem stat_dateW {p : Pr} (h : p.1.toList = [100, 97, 116, 101]) : firstI (selW (statP P) p) 61 = if p.2.toList = [] then some 32 else none := by
  rw [stat_whole P (k := 32) (fun i hi => ?_) (by decide) (stat_date_v P)]
  · have : prEq (#[100, 97, 116, 101], #[]) p = decide (p.2.toList = []) := by
      unfold prEq; simp only [h]
      cases hp : p.2.toList <;> simp
    rw [this]; simp
  · rw [sel_of_map h (stat_date P)]
    have : ∀ i < 61, ((List.replicate 32 false ++ true :: List.replicate 28 false)[i]?).getD false = (i == 32) := by decide
    exact this i hi
theorem stat_ageW {p : Pr} (h : p.1.toList = [97, 103, 101]) : firstI (selW (statP P) p) 61 = if p.2.toList = [] then some 20 else none := by
  rw [stat_whole P (k := 20) (fun i hi => ?_) (by decide) (stat_age_v P)]
  · have : prEq (#[97, 103, 101], #[]) p = decide (p.2.toList = []) := by
      unfold prEq; simp only [h]
      cases hp : p.2.toList <;> simp
    rw [this]; simp
  · rw [sel_of_map h (stat_age P)]
    have : ∀ i < 61, ((List.replicate 20 false ++ true :: List.replicate 40 false)[i]?).getD false = (i == 20) := by decide
    exact this i hi
end
end
end Mine
namespace Mine
section
open PySem PySem.W PySem.Calls PyProof.Rows
set_option maxRecDepth 100000
def pick (sel : Nat → Bool) (n : Nat) : List Int := ((List.range n).filter sel).map fun (j : Nat) => (j : Int)
theorem pick_succ (sel : Nat → Bool) (n : Nat) : pick sel (n + 1) = if sel n then pick sel n ++ [(n : Int)] else pick sel n := by
  unfold pick
  rw [List.range_succ, List.filter_append, List.map_append]
  cases h : sel n <;> simp [h]
theorem pick_head (sel : Nat → Bool) (n : Nat) : (pick sel n).head? = (firstI sel n).map fun (j : Nat) => (j : Int) := by
  unfold pick firstI
  rw [List.head?_map, List.head?_filter]
theorem pick_len (sel : Nat → Bool) (n : Nat) : (pick sel n).length ≤ n := by
  unfold pick
  rw [List.length_map]
  exact Nat.le_trans (List.length_filter_le _ _) (by simp)
theorem pick_nil {sel : Nat → Bool} {n : Nat} (h : firstI sel n = none) : pick sel n = [] := by
  have := pick_head sel n
  rw [h] at this
  exact List.head?_eq_none_iff.mp this
theorem pick_cons {sel : Nat → Bool} {n i : Nat} (h : firstI sel n = some i) : ∃ r, pick sel n = (i : Int) :: r := by
  have := pick_head sel n
  rw [h] at this
  cases hp : pick sel n with
  | nil => rw [hp] at this; cases this
  | cons a r => rw [hp] at this; cases this; exact ⟨r, rfl⟩
theorem ints_snoc : ∀ {zs : List Value} {ns : List Int} {n : Int} {t : Tok}, IntsAre zs ns → IntsAre (zs ++ [.int n t]) (ns ++ [n])
  | _, _, n, t, .nil => .cons n t .nil
  | _, _, _, _, .cons _ t r => .cons _ t (ints_snoc r)
section
variable {w : World} {A A₀ : Around} {E : Value → Shared → Prop} {s : Shared} {h₀ base : Heap} {L : Addr} {m mg mb : Str → Option Value} {env env2 : Env}
open LCg LCt in
theorem compRestT_of {ct elt : Expr} {x : Str} {scope : Scope} {cl : List (Str × Addr)} {Fin : List Value → List (Addr × Obj) → Prop} {nw : List (Addr × Obj)} (sel : Nat → Bool) (n : Nat)
    (turn : ∀ i t I oI C oC D ys m₂ h tk (E' : Value → Shared → Prop), i < n → NsObj oC m₂ → m₂ x = some (.int (i : Int) t) → Fr h₀ L h m → News h₀ L h ((I, oI) :: (C, oC) :: (D, lst ys) :: nw) → Off3 I C D nw → ((@Ne Nat I C) ∧ (@Ne Nat I D) ∧ (@Ne Nat C D)) →
      wpAny (model pw w) A (isTrue ct (compEnvC scope cl C env) (eval ct (compEnvC scope cl C env))) (fun ok s' => if ok = true then sel i = true ∧
        wpAny (model pw w) A (eval elt (compEnvC scope cl C env)) (fun y s₂ => (∃ t, y = .int (i : Int) t) ∧ ∃ h' tk', s₂ = { s with heap := h', toks := tk' } ∧ Fr h₀ L h' m ∧ News h₀ L h' ((I, oI) :: (C, oC) :: (D, lst ys) :: nw)) E' s'
        else sel i = false ∧ ∃ h' tk', s' = { s with heap := h', toks := tk' } ∧ Fr h₀ L h' m ∧ News h₀ L h' ((I, oI) :: (C, oC) :: (D, lst ys) :: nw)) E' { s with heap := h, toks := tk }) :
    ∀ (k i : Nat) (ys : List Value), i + k = n → IntsAre ys (pick sel i) → (∀ zs : List Value, IntsAre zs (pick sel n) → Fin zs nw) →
      CompRestT pw w A h₀ L m env ct elt x scope cl s (fun _ => True) (fun i v => ∃ t, v = .int (0 + (i : Int)) t) Fin k i ys nw
  | 0, i, ys, hl, hy, hf => hf ys (by have : i = n := by omega
                                      rw [← this]; exact hy)
  | k + 1, i, ys, hl, hy, hf => by
    refine CompRestT.succ ?_
    intro v I oI C oC D m₂ h tk E' hP hN hx F N hO hne
    obtain ⟨t, rfl⟩ := hP
    rw [Int.zero_add] at hx
    refine wpAny_mono (turn i t I oI C oC D ys m₂ h tk E' (by omega) hN hx F N hO hne) ?_ fun _ _ e => e
    intro ok s' hs'
    cases ok with
    | true =>
      simp only [if_true] at hs' ⊢
      obtain ⟨hsel, hw⟩ := hs'
      refine wpAny_mono hw ?_ fun _ _ e => e
      rintro y s₂ ⟨⟨t', rfl⟩, h', tk', rfl, F', N'⟩
      refine ⟨h', tk', nw, rfl, F', N', hO, trivial, ?_⟩
      refine compRestT_of sel n turn k (i + 1) _ (by omega) ?_ hf
      rw [pick_succ, if_pos hsel]; exact ints_snoc hy
    | false =>
      simp only [Bool.false_eq_true, if_false] at hs' ⊢
      obtain ⟨hsel, h', tk', rfl, F', N'⟩ := hs'
      refine ⟨h', tk', nw, rfl, F', N', hO, trivial, ?_⟩
      refine compRestT_of sel n turn k (i + 1) _ (by omega) ?_ hf
      rw [pick_succ, if_neg (by rw [hsel]; exact Bool.false_ne_true)]; exact hy
end
end
end Mine
namespace Mine
section
open PySem PySem.W PySem.Calls PyProof.Rows
set_option maxRecDepth 100000
set_option maxHeartbeats 4000000
local macro_rules | `(tactic| walk_at "own:pad0") => `(tactic| skip)
local macro_rules | `(tactic| walk_at "own:pad1") => `(tactic| skip)
local macro_rules | `(tactic| walk_at "own:pad2") => `(tactic| skip)
local macro_rules | `(tactic| walk_at "own:pad3") => `(tactic| skip)
local macro_rules | `(tactic| walk_at "own:pad4") => `(tactic| skip)
local macro_rules | `(tactic| walk_at "own:pad5") => `(tactic| skip)
local macro_rules | `(tactic| walk_at "own:pad6") => `(tactic| skip)
local macro_rules | `(tactic| walk_at "own:pad7") => `(tactic| skip)
local macro_rules | `(tactic| walk_at "own:pad8") => `(tactic| skip)
local macro_rules | `(tactic| walk_at "own:pad9") => `(tactic| skip)
local macro_rules | `(tactic| walk_at "getMethod ref") => `(tactic| (k_here; (with_reducible show wpAny _ _ (getMethod (Value.ref _) (PySem.Str.ofString "clear") _) _ _ _); k_dflt (refine' dq_method_K ?N ?m slot_dq_clear type_dq_clear ?_; (case N => k_asm); (case m => k_mem); k_whole)))
local macro_rules | `(tactic| walk_at "getMethod ref") => `(tactic| (k_here; (with_reducible show wpAny _ _ (getMethod (Value.ref _) (PySem.Str.ofString "appendleft") _) _ _ _); k_dflt (refine' dq_method_K ?N ?m slot_dq_appendleft type_dq_appendleft ?_; (case N => k_asm); (case m => k_mem); k_whole)))
local macro_rules | `(tactic| walk_at "getMethod ref") => `(tactic| (k_here; (with_reducible show wpAny _ _ (getMethod (Value.ref _) (PySem.Str.ofString "pop") _) _ _ _); k_dflt (refine' dq_method_K ?N ?m slot_dq_pop type_dq_pop ?_; (case N => k_asm); (case m => k_mem); k_whole)))
local macro_rules | `(tactic| walk_at "call builtin:collections.deque.clear") => `(tactic| (k_here; k_dflt (refine' dq_clear_K ?k1 ?k2 ?k3 ?_; (case k1 => k_asm); (case k2 => k_asm); (case k3 => k_upd); k_whole); intro h' F' N'; (try k_sweep)))
local macro_rules | `(tactic| walk_at "call builtin:collections.deque.appendleft") => `(tactic| (k_here; k_dflt (refine' dq_appendleft_K ?k1 ?k2 ?k3 ?z ?_; (case k1 => k_asm); (case k2 => k_asm); (case k3 => k_upd); (case z => assumption); k_whole); intro h' F' N'; (try k_sweep)))
local macro_rules | `(tactic| walk_at "call builtin:collections.deque.pop") => `(tactic| (k_here; k_dflt (refine' dq_pop_K ?k1 ?k2 ?k3 ?z ?_; (case k1 => k_asm); (case k2 => k_asm); (case k3 => k_upd); (case z => assumption); k_whole); intro h' F' N'; (try k_sweep)))
local macro_rules | `(tactic| walk_at "call builtin:len") => `(tactic| (k_here; (with_reducible show wpAny _ _ (call (Value.builtin "len") [Value.bytes _ _]) _ _ _); (refine len_bytes (by omega) ?_)))
local macro_rules | `(tactic| k_clsL) => `(tactic| first | with_reducible assumption | (refine List.mem_cons_of_mem _ ?_; k_clsL))
local macro_rules | `(tactic| k_mem) => `(tactic| k_clsL)
set_option hygiene false in
local macro_rules | `(tactic| walk_at "own:enter") => `(tactic| (
  refine' code_def B0 F X N Tp rfl hf hke ?k6 ?k7 ?k8 ?k9 ?kB ?_ ?c2 ?c3 ?c4 ?c5
  (case k6 => k_is)
  (case k7 => k_is)
  (case k8 => k_room)
  (case k9 => exact BindsTo.of_eq rfl)
  (case c5 => decide)
  (case kB => exact locs rfl)
  (case c2 => exact rfl)
  (case c3 => exact rfl)
  (case c4 => exact rfl)
  intro g' L' h' FG' F' N' B' X' T'
  (try dsimp only)
  (try k_lift B')
  (try k_fold)))
local macro_rules | `(tactic| walk_at "binaryOp Mult bytes int") => `(tactic| (k_here; k_dflt (refine' bytes_mul_any (b := [118]) ?b ?lo ?hi ?ln ?_; (case b => simp); (case lo => omega); (case hi => omega); (case ln => decide); k_whole); intro t' k'; (try dsimp only)))
local macro_rules | `(tactic| walk_at "call type:collections.deque") => `(tactic| (k_here; k_dflt (refine' dq_new_K ?k1 ?k2 ?_; (case k1 => k_asm); (case k2 => k_asm); k_whole); intro q' h' F' N' l1; (try k_lt l1); (try k_sweep)))
local macro_rules | `(tactic| walk_at "binaryOp Add ref ref") => `(tactic| (k_here; k_dflt (refine' add_KK ?F ?N ?a ?b ?z ?_; (case F => k_asm); (case N => k_asm); (case a => k_mem); (case b => k_mem); (case z => (first | omega | (simp only [List.length_cons, List.length_nil]; omega))); k_whole); intro D' h' F' N' l1; (try k_lt l1)))
local macro_rules | `(tactic| walk_at "call builtin:len") => `(tactic| (k_here; (with_reducible show wpAny _ _ (call (Value.builtin "len") [Value.ref _]) _ _ _); k_dflt (refine' dq_len_K ?N ?a ?z ?_; (case N => k_asm); (case a => k_mem); (case z => omega); k_whole); intro t' tk'))
local macro_rules | `(tactic| walk_at "call builtin:len") => `(tactic| (k_here; (with_reducible show wpAny _ _ (call (Value.builtin "len") [Value.ref _]) _ _ _); k_dflt (refine' len_KK ?N ?a ?z ?_; (case N => k_asm); (case a => k_mem); (case z => (first | omega | (simp only [List.length_append]; omega))); k_whole); intro t' tk'; (try simp only [List.length_append, List.length_cons, statL_len])))
local macro_rules | `(tactic| walk_at "subscriptTail") => `(tactic| (k_here; (with_reducible show wpAny _ _ (subscriptTail _ _ (Value.ref _) (Value.int _ _)) _ _ _); k_dflt (refine' item_KK ?N ?a ?b ?c ?z ?_ ?s; (case N => k_asm); (case a => k_mem); (case b => omega); (case c => (first | omega | (simp only [List.length_append, statL_len]; omega))); (case z => (first | omega | (simp only [List.length_append, statL_len]; omega))); (case s => with_unfolding_all rfl); k_whole); intro v' hv'))
local macro_rules | `(tactic| walk_at "subscriptTail") => `(tactic| (k_here; (with_reducible show wpAny _ _ (subscriptTail _ _ (Value.ref _) (Value.int _ _)) _ _ _); k_dflt (refine' ditem_KK ?N ?a ?b ?c ?z ?_ ?s; (case N => k_asm); (case a => k_mem); (case b => omega); (case c => omega); (case z => omega); (case s => with_unfolding_all rfl); k_whole); intro v' tk' hv'))
local macro_rules | `(tactic| walk_at "subscriptTail") => `(tactic| (k_here; (with_reducible show wpAny _ _ (subscriptTail _ _ (Value.ref 157) (Value.int _ _)) _ _ _); k_dflt (refine' sitem_KK ?N ?a ?b ?c ?_ ?s; (case N => k_asm); (case a => k_asm); (case b => omega); (case c => omega); (case s => with_unfolding_all rfl); k_whole); intro v' hv'))
section
variable {w : World} {A A₀ : Around} {E : Value → Shared → Prop} {s : Shared} {h₀ base : Heap} {L : Addr} {m mg mb : Str → Option Value} {env env2 : Env} {outer : List Env} {mean : ExcName → Option Value}
theorem up5 {a x y z v : Addr × Obj} {tl : List (Addr × Obj)} : ∀ p ∈ tl, p ∈ a :: x :: y :: z :: v :: tl := fun _ h => List.mem_cons_of_mem _ (up4 _ h)
theorem up7' {a x y z v : Addr × Obj} {tl : List (Addr × Obj)} : ∀ p ∈ tl, p ∈ a :: x :: y :: z :: v :: tl := up5
theorem ends1 {h' : Heap} {x : Addr × Obj} {l nw : List (Addr × Obj)} (N : News h₀ L h' (x :: l)) (hs : ∀ p ∈ nw, p ∈ l) : News h₀ L h' ([x] ++ nw) :=
  fun p hp => N p ((List.mem_cons.mp hp).elim (fun e => e ▸ .head _) fun h => .tail _ (hs p h))
theorem lt1 {D : Addr} {o : Obj} {nw : List (Addr × Obj)} (h : AllLt D nw) : ∀ p ∈ [(D, o)], ∀ z ∈ nw, z.1 < p.1 := by
  intro p hp z hz
  rw [List.mem_singleton.mp hp]
  exact allLt_to h z hz
theorem found_some {rs : List Pr} {p : Pr} {n i : Nat} (hn : rs.length = n) (h : firstI (selW rs p) n = some i) : foundD rs p = some ((i : Int) + 1, true) := by
  unfold foundD; rw [hn, h]
theorem found_named {rs : List Pr} {p : Pr} {n i : Nat} (hn : rs.length = n) (h : firstI (selW rs p) n = none) (h' : firstI (selN rs p) n = some i) : foundD rs p = some ((i : Int) + 1, false) := by
  unfold foundD; rw [hn, h, h']
theorem found_none {rs : List Pr} {p : Pr} {n : Nat} (hn : rs.length = n) (h : firstI (selW rs p) n = none) (h' : firstI (selN rs p) n = none) : foundD rs p = none := by
  unfold foundD; rw [hn, h, h']
theorem up7 {a b x y z v c : Addr × Obj} {tl : List (Addr × Obj)} : ∀ p ∈ tl, p ∈ a :: b :: x :: y :: z :: v :: c :: tl := fun _ h => List.mem_cons_of_mem _ (List.mem_cons_of_mem _ (List.mem_cons_of_mem _ (up4 _ h)))
theorem up6 {a b x y z v : Addr × Obj} {tl : List (Addr × Obj)} : ∀ p ∈ tl, p ∈ a :: b :: x :: y :: z :: v :: tl := fun _ h => List.mem_cons_of_mem _ (List.mem_cons_of_mem _ (up4 _ h))
local macro_rules | `(tactic| walk_at "CompSrcT") => `(tactic| (refine' Hold.get ?_))
local macro_rules | `(tactic| walk_at "exec Assign cons ListComp") => `(tactic| (k_here; refine' Hold.get ?_))
set_option pp.deepTerms false in
set_option pp.maxSteps 3000 in
theorem found_ctr {Sd H D : Addr} {hxs : List Value} {c cS : Nat} {ps : List Pr} {n v : Array UInt8} {tn tv : Tok} {nw : List (Addr × Obj)} {R : Result → Shared → Prop}
    (B0 : Below callerA base [] h₀) (F : Fr h₀ L s.heap m) (X : (KK w.params).In h₀) (Tp : Top qv (looseW qv qloose) mean mg mb h₀) (hf : env.frame = some L) (hke : env.scope.kind = .function)
    (N : News h₀ L s.heap nw) (hS : (Sd, listOf statL.toArray cS) ∈ nw) (hH : (H, listOf hxs.toArray c) ∈ nw) (hD : (D, tupB n tn v tv) ∈ nw) (hp1 : Pairs nw hxs ps) (hxs' : hxs.length ≤ 1000)
    (hR : ∀ h' tk r ex, Fr h₀ L h' m → News h₀ L h' (ex ++ nw) → (∀ p ∈ ex, ∀ z ∈ nw, z.1 < p.1) → FRes h' n v (foundD (statP w.params ++ ps) (n, v)) r →
      R (.ok (.ret r)) { s with heap := h', toks := tk }) : codeAny (model pw w) (callerA.deeper env) (.call (.ref 797) ⟨[.ref Sd, .ref H, .ref D], []⟩) R s := by
  have law : PySem.Challenge.rw_ds0003_01 = PySem.Challenge.rw_ds0003_01 ∧ KK = KK := ⟨rfl, rfl⟩
  revert law
  k_fill
  intro law
  have hlen1 : hxs.length = ps.length := hp1.len
  have hlenS : statL.length = 61 := statL_len
  have hrl : (statP w.params ++ ps).length = 61 + hxs.length := by rw [List.length_append, statP_len, hlen1]
  refine' code_defC B0 F X N Tp rfl hf hke ?k6 ?k7 ?k8 ?k9 ?kB ?kD ?_ ?c2 ?c3 ?c4
  (case k6 => k_is)
  (case k7 => k_is)
  (case k8 => k_room)
  (case k9 => exact BindsTo.of_eq rfl)
  (case kB => exact rfl)
  (case kD => decide +kernel)
  (case c2 => exact rfl)
  (case c3 => exact rfl)
  (case c4 => exact rfl)
  intro g' L' h' tk' cells' FG' F' N' Y' B' X' T' l1
  (try k_lt l1)
  k_cells Y'
  rename_i o1 o2 d1 d2
  (try simp only [List.cons_append, List.nil_append] at N')
  (try dsimp only)
  (try k_lift B')
  (try k_fold)
  have hoC : OwnOff nw [L' + 1 + 1, L' + 1] := by
    intro p hp b hb
    have := l1 p hp
    simp only [List.mem_cons, List.not_mem_nil, or_false] at hb
    rcases hb with rfl | rfl
    · exact Nat.ne_of_lt (Nat.lt_succ_of_lt (Nat.lt_succ_of_lt this))
    · exact Nat.ne_of_lt (Nat.lt_succ_of_lt this)
  have d1 : o1.data = Data.cell none := d1
  have d2 : o2.data = Data.cell (some (.ref D)) := d2
  have F' : Fr g' L' h' (fun y => if y = Str.ofString "held" then some (.ref H) else if y = Str.ofString "standing" then some (.ref Sd) else none) := F'
  k_steps
  unfold Hold
  rename Fr g' L' _ _ => F5
  rename News g' L' _ _ => N5
  refine LCt.Assign_ListComp_T (F₀ := F5) (by rfl) (by with_unfolding_all rfl) (by with_unfolding_all rfl) (by decide) (by rfl) (by decide) (by rfl) (by rfl) (by rfl) ?_
  k_steps
  unfold Hold
  rename Fr g' L' _ _ => F6
  rename News g' L' _ _ => N6
  rename IsRange _ _ _ _ _ _ _ _ => hr
  refine LCt.CompSrcT.range (n := 61 + hxs.length) rfl F6 N6 hr (small_one (by omega) (by omega) (by omega) (by omega)) (by rw [rangeSize_one, if_pos (by omega)]; omega) (by have := sizeLine_ge; omega) fun g => ?_
  refine compRestT_of (selW (statP w.params ++ ps) (n, v)) (61 + hxs.length) ?_ _ 0 [] (by omega) .nil ?_
  · intro i t I oI C oC D2 ys m₂ h tk E' hi hN hx F2 N2 hO hne
    k_steps
    rename (statL ++ hxs)[_]? = some _ => hv
    have rows : RowsH h (statL ++ hxs) (statP w.params ++ ps) := ((stat_rows X').keeps F2.keep).append (Pairs.rows N2 up6 hp1)
    obtain ⟨r, hr', D3, u, u', rfl, hT⟩ := rows.2 _ _ hv
    rw [Int.toNat_natCast] at hr'
    have hs : selW (statP w.params ++ ps) (n, v) i = prEq r (n, v) := by
      unfold selW; rw [hr']
    refine eq_pair (p := r) (r := (n, v)) hT ⟨_, (N2 _ (up6 _ hD)).1, rfl, _, rfl⟩ (Nat.lt_of_le_of_lt (Nat.le_add_right _ 64) (by ke_room)) ?_
    cases hq : prEq r (n, v) with
    | true =>
      k_steps
      · exact hs.trans hq
      · exact F2
      · exact N2
    | false =>
      k_steps
      · exact hs.trans hq
      · exact F2
      · exact N2
  · intro zs hzs
    intro D7 h7 tk7 F7 N7 o7
    have hzl := hzs.length
    have hpl := pick_len (selW (statP w.params ++ ps) (n, v)) (61 + hxs.length)
    cases hfw : firstI (selW (statP w.params ++ ps) (n, v)) (61 + hxs.length) with
    | some i =>
      obtain ⟨r, hpr⟩ := pick_cons hfw
      rw [hpr] at hzs
      cases hzs with
      | cons _ t7 hz7 =>
        dsimp only
        k_steps
        · rename Fr h₀ L _ m => F9
          rename News h₀ L _ _ => N9
          rename _ < _ ∧ _ ∧ _ ∧ _ ∧ AllLt _ nw => l9
          exact hR _ _ _ [_] F9 (ends1 N9 up4) (lt1 l9.2.2.2.2) (found_some hrl hfw ▸ ⟨_, _, _, _, rfl, ⟨_, rfl⟩, ⟨_, (N9 _ (.head _)).1, rfl, _, rfl⟩⟩)
        · unfold Hold
          rename Fr g' L' _ _ => F5
          rename News g' L' _ _ => N5
          refine LCt.Assign_ListComp_T (F₀ := F5) (by rfl) (by with_unfolding_all rfl) (by with_unfolding_all rfl) (by decide) (by rfl) (by decide) (by rfl) (by rfl) (by rfl) ?_
          k_steps
          unfold Hold
          rename Fr g' L' _ _ => F6
          rename News g' L' _ _ => N6
          rename IsRange _ _ _ _ _ _ _ _ => hr
          refine LCt.CompSrcT.range (n := 61 + hxs.length) rfl F6 N6 hr (small_one (by omega) (by omega) (by omega) (by omega)) (by rw [rangeSize_one, if_pos (by omega)]; omega) (by have := sizeLine_ge; omega) fun g => ?_
          refine compRestT_of (selN (statP w.params ++ ps) (n, v)) (61 + hxs.length) ?_ _ 0 [] (by omega) .nil ?_
          · intro i t I oI C oC D2 ys m₂ h tk E' hi hN hx F2 N2 hO hne
            k_steps
            rename (statL ++ hxs)[_]? = some _ => hv
            have rows : RowsH h (statL ++ hxs) (statP w.params ++ ps) := ((stat_rows X').keeps F2.keep).append (Pairs.rows N2 up7 hp1)
            obtain ⟨r, hr', D3, u, u', rfl, hT⟩ := rows.2 _ _ hv
            rw [Int.toNat_natCast] at hr'
            have hs : selN (statP w.params ++ ps) (n, v) i = (r.1.toList == n.toList) := by
              unfold selN; rw [hr']
            refine item_tuple (x := .bytes r.1 u) (j := 0) hT (by decide) (by decide) rfl rfl ?_ (by with_unfolding_all rfl) (by intro _; with_unfolding_all rfl)
            dsimp only
            k_steps
            · exact hs.trans (by assumption)
            · exact F2
            · exact N2
            · exact hs.trans (by first | assumption | exact Bool.eq_false_iff.mpr (by assumption))
            · exact F2
            · exact N2
          · intro zs hzs
            intro D7 h7 tk7 F7 N7 o7
            have hzl := hzs.length
            have hpl := pick_len (selN (statP w.params ++ ps) (n, v)) (61 + hxs.length)
            dsimp only
            k_steps
            rename Fr h₀ L _ m => F9
            rename News h₀ L _ _ => N9
            rename _ < _ ∧ _ ∧ _ ∧ _ ∧ _ ∧ AllLt _ nw => l9
            exact hR _ _ _ [_] F9 (ends1 N9 up7') (lt1 l9.2.2.2.2.2) (found_some hrl hfw ▸ ⟨_, _, _, _, rfl, ⟨_, rfl⟩, ⟨_, (N9 _ (.head _)).1, rfl, _, rfl⟩⟩)
    | none =>
      rw [pick_nil hfw] at hzs
      cases hzs
      dsimp only
      k_steps
      · unfold Hold
        rename Fr g' L' _ _ => F5
        rename News g' L' _ _ => N5
        refine LCt.Assign_ListComp_T (F₀ := F5) (by rfl) (by with_unfolding_all rfl) (by with_unfolding_all rfl) (by decide) (by rfl) (by decide) (by rfl) (by rfl) (by rfl) ?_
        k_steps
        unfold Hold
        rename Fr g' L' _ _ => F6
        rename News g' L' _ _ => N6
        rename IsRange _ _ _ _ _ _ _ _ => hr
        refine LCt.CompSrcT.range (n := 61 + hxs.length) rfl F6 N6 hr (small_one (by omega) (by omega) (by omega) (by omega)) (by rw [rangeSize_one, if_pos (by omega)]; omega) (by have := sizeLine_ge; omega) fun g => ?_
        refine compRestT_of (selN (statP w.params ++ ps) (n, v)) (61 + hxs.length) ?_ _ 0 [] (by omega) .nil ?_
        · intro i t I oI C oC D2 ys m₂ h tk E' hi hN hx F2 N2 hO hne
          k_steps
          rename (statL ++ hxs)[_]? = some _ => hv
          have rows : RowsH h (statL ++ hxs) (statP w.params ++ ps) := ((stat_rows X').keeps F2.keep).append (Pairs.rows N2 up7 hp1)
          obtain ⟨r, hr', D3, u, u', rfl, hT⟩ := rows.2 _ _ hv
          rw [Int.toNat_natCast] at hr'
          have hs : selN (statP w.params ++ ps) (n, v) i = (r.1.toList == n.toList) := by
            unfold selN; rw [hr']
          refine item_tuple (x := .bytes r.1 u) (j := 0) hT (by decide) (by decide) rfl rfl ?_ (by with_unfolding_all rfl) (by intro _; with_unfolding_all rfl)
          dsimp only
          k_steps
          · exact hs.trans (by assumption)
          · exact F2
          · exact N2
          · exact hs.trans (by first | assumption | exact Bool.eq_false_iff.mpr (by assumption))
          · exact F2
          · exact N2
        · intro zs hzs
          intro D7 h7 tk7 F7 N7 o7
          have hzl := hzs.length
          have hpl := pick_len (selN (statP w.params ++ ps) (n, v)) (61 + hxs.length)
          cases hfn : firstI (selN (statP w.params ++ ps) (n, v)) (61 + hxs.length) with
          | some j =>
            obtain ⟨r, hpr⟩ := pick_cons hfn
            rw [hpr] at hzs
            cases hzs with
            | cons _ t8 hz8 =>
              dsimp only
              k_steps
              rename Fr h₀ L _ m => F9
              rename News h₀ L _ _ => N9
              rename _ < _ ∧ _ ∧ _ ∧ _ ∧ _ ∧ AllLt _ nw => l9
              exact hR _ _ _ [_] F9 (ends1 N9 up7') (lt1 l9.2.2.2.2.2) (found_named hrl hfw hfn ▸ ⟨_, _, _, _, rfl, rfl, ⟨_, (N9 _ (.head _)).1, rfl, _, rfl⟩⟩)
          | none =>
            rw [pick_nil hfn] at hzs
            cases hzs
            dsimp only
            k_steps
            rename Fr h₀ L _ m => F9
            rename News h₀ L _ _ => N9
            exact hR _ _ _ [] F9 (fun p hp => N9 p (up5 p hp)) (fun p hp => nomatch hp) (found_none hrl hfw hfn ▸ rfl)
end
end
end Mine
namespace Mine
section
open PySem PySem.W PySem.Calls PyProof.Rows
set_option maxRecDepth 100000
set_option maxHeartbeats 400000
/-- the standing rows' mapping, as far as the law's names ask it -/
def MFd (w : World) (h : Heap) (d : Addr) (i : Int) : Prop := ∃ g, h.MapOf (bytesKind pw w) d g ∧ (∃ t, g [] = some (.int i t)) ∧ ∀ k, k ≠ [] → g k = none
def MF (w : World) (h : Heap) : Prop :=
  (∃ f, h.MapOf (bytesKind pw w) 232 f ∧ f [] = none ∧ f [97] = none ∧ f [98, 99] = none ∧ f [100, 97, 116, 101] = some (.ref 531) ∧ f [97, 103, 101] = some (.ref 423)) ∧
  (∃ t, IsT h 531 #[.int 33 t, .ref 530] 0) ∧ (∃ t, IsT h 423 #[.int 21 t, .ref 422] 0) ∧ MFd w h 530 33 ∧ MFd w h 422 21
theorem MapOf.keeps {prog : Program} {w : World} {h h' : Heap} {a : Addr} {f : List UInt8 → Option Value} (x : h.MapOf (bytesKind prog w) a f) (k : ∀ b o, h.get? b = some o → h'.get? b = some o) : h'.MapOf (bytesKind prog w) a f :=
  let ⟨o, es, ep, ho, r⟩ := x; ⟨o, es, ep, k _ _ ho, r⟩
theorem MF.keeps {w : World} {h h' : Heap} (x : MF w h) (k : ∀ b o, h.get? b = some o → h'.get? b = some o) : MF w h' := by
  obtain ⟨⟨f, h1, h2⟩, ⟨t, h3⟩, ⟨t', h4⟩, ⟨g, h5, h6⟩, ⟨g', h7, h8⟩⟩ := x
  exact ⟨⟨f, MapOf.keeps h1 k, h2⟩, ⟨t, k _ _ h3⟩, ⟨t', k _ _ h4⟩, ⟨g, MapOf.keeps h5 k, h6⟩, ⟨g', MapOf.keeps h7 k, h8⟩⟩
def fnd (o : Option Obj) (k : List UInt8) : Option Value := match o with
  | some o => match o.data with
    | .dict es _ => findBy isBytes es k
    | _ => none
  | none => none
def keysAre (o : Option Obj) : List (List UInt8) := match o with
  | some o => match o.data with
    | .dict es _ => es.toList.map fun e => match e.key with | .bytes b _ => b.toList | _ => [1, 1, 1]
    | _ => []
  | none => []
section
variable (P : Params) (X Y : Obj)
theorem look5 : ((S13 P X Y).g.contains 232 && ((S13 P X Y).g.contains 422 && (S13 P X Y).g.contains 530),
    ([[], [97], [98, 99], [100, 97, 116, 101], [97, 103, 101]] : List (List UInt8)).map (fnd ((S13 P X Y).get 232)), keysAre ((S13 P X Y).get 530), keysAre ((S13 P X Y).get 422), fnd ((S13 P X Y).get 530) [], fnd ((S13 P X Y).get 422) [], (S13 P X Y).get 531, (S13 P X Y).get 423) =
    (true, [none, none, none, some (.ref 531), some (.ref 423)], [[]], [[]], some (.int 33 859), some (.int 21 763), some ⟨.type "tuple", none, .seq #[.int 33 859, .ref 530] 0, #[]⟩, some ⟨.type "tuple", none, .seq #[.int 21 763, .ref 422] 0, #[]⟩) := by kernel_rfl
end
section
variable {w : World} (X Y : Obj)
theorem good13 : Good pw w (S13 w.params X Y) := by
  have h9 := nine_wp (w := w) (os := default) X Y
  have h3 := wp_of_ev (os := default) (rest_is w.params X Y) h9.2 log_nil
  have h4 := h3.2
  clear h3 h9
  revert h4
  generalize S13 w.params X Y = z
  exact id
theorem H1_get {a : Nat} {o : Obj} (h : (S13 w.params X Y).get a = some o) : (H1 w.params X Y).get? a = some o := by
  have := TS.get_abs (os := default) h
  rw [sh1_is] at this
  exact this
theorem map_at {d : Nat} (hd : (S13 w.params X Y).g.contains d = true) : (H1 w.params X Y).MapOf (bytesKind pw w) d (fnd ((S13 w.params X Y).get d)) := by
  obtain ⟨es, ep, h1, h2⟩ := good13 X Y d (by simpa using hd)
  refine ⟨_, es, ep, H1_get X Y h1, ⟨rfl, rfl, rfl⟩, rfl, h2, fun k => ?_⟩
  rw [h1]; rfl
theorem find_one {o : Option Obj} (hk : keysAre o = [[]]) {k : List UInt8} (h : k ≠ []) : fnd o k = none := by
  unfold fnd
  cases o with
  | none => rfl
  | some o =>
    simp only [keysAre] at hk ⊢
    cases hd : o.data with
    | dict es ep =>
      rw [hd] at hk
      simp only at hk ⊢
      obtain ⟨l⟩ := es
      unfold findBy
      cases l with
      | nil => simp at hk
      | cons e r =>
        cases r with
        | cons e' r' => simp at hk
        | nil =>
          simp only [List.map_cons, List.map_nil, List.cons.injEq, and_true] at hk
          have : isBytes k e.key = false := by
            cases he : e.key with
            | bytes b t =>
              rw [he] at hk
              simp only [isBytes]
              simp only at hk
              rw [hk]
              cases k with
              | nil => exact absurd rfl h
              | cons a r => rfl
            | _ => rfl
          simp [this]
    | _ => rfl
theorem mf_H1 : MF w (H1 w.params X Y) := by
  have l := look5 w.params X Y
  simp only [Prod.mk.injEq] at l
  obtain ⟨l1, l2, l3, l4, l5, l6, l7, l8⟩ := l
  obtain ⟨g1, g2⟩ := Bool.and_eq_true_iff.mp l1
  obtain ⟨g2, g3⟩ := Bool.and_eq_true_iff.mp g2
  simp only [List.map_cons, List.map_nil, List.cons.injEq, and_true] at l2
  refine ⟨⟨_, map_at X Y g1, l2⟩, ⟨859, H1_get X Y l7⟩, ⟨763, H1_get X Y l8⟩, ⟨_, map_at X Y g3, ⟨_, l5⟩, fun k hk => find_one l3 hk⟩, ⟨_, map_at X Y g2, ⟨_, l6⟩, fun k hk => find_one l4 hk⟩⟩
theorem inK_H1 : InK KK w (H1 w.params X Y) := by
  intro a o h
  have hm : (a, o) ∈ KK w.params := by
    have := List.lookup_eq_some_iff.mp h
    obtain ⟨l1, l2, e, _⟩ := this
    rw [e]; simp
  have e := KK_is w.params X Y
  rw [KA_is w.params, List.map_map] at e
  refine H1_get X Y ?_
  revert e
  generalize S13 w.params X Y = z
  intro e
  exact List.map_inj_left.mp e (a, o) hm
end
end
end Mine
namespace Mine
section
open PySem PySem.W PySem.Calls PyProof.Rows
set_option maxRecDepth 100000
section
variable {prog : Program} {w : World} {A : Around} {E : Value → Shared → Prop} {s : Shared} {q it e : Addr} {st : Int} {xs : List Value}
theorem dqi_nextOf_item {i : Nat} {l : Int} {x : Value} {Q : Value → Shared → Prop} (hne : q ≠ it) (hi : s.heap.get? it = some (dqI q i st l)) (ho : s.heap.get? q = some (dqO st xs)) (hl : l ≠ 0) (hx : xs[i]? = some x)
    (h : ∀ h', h'.get? it = some (dqI q (i + 1) st (l - 1)) → Heap.SameBut it s.heap h' → Q x { s with heap := h' }) : wpAny (model prog w) A (Builtin.SmallTypes.nextOf (.ref it)) Q E s := by
  have hT : s.TypeIs (.ref it) "collections._deque_iterator" := ⟨_, hi, rfl⟩
  unfold Builtin.SmallTypes.nextOf
  refine wpAny_bind (wpAny_callSpecial?_slot (name := Str.ofString "__next__") hT slot_dqi_next
    (wpAny_call_entry slot_dqi_next hT entry_dqi_next ?_ (args_dqi_next _)))
  show wpAny _ _ (Builtin.DequeIter.advance (.ref it) 1 >>= _) _ _ s
  exact wpAny_bind (dqi_adv_item hne hi ho hl hx fun h' a b => wpAny_pure ⟨_, rfl, wpAny_pure (h h' a b)⟩)
theorem dqi_nextOf_end {i : Nat} {Q : Value → Shared → Prop} (hh : A.handled = none) (hi : s.heap.get? it = some (dqI q i st 0)) (ho : s.heap.get? q = some (dqO st xs))
    (hE : ∀ h' x, Heap.ExtBut it s.heap h' → (∃ o, h'.get? x = some o ∧ o.cls = .type "StopIteration") → E (.ref x) { s with heap := h' }) : wpAny (model prog w) A (Builtin.SmallTypes.nextOf (.ref it)) Q E s := by
  have hT : s.TypeIs (.ref it) "collections._deque_iterator" := ⟨_, hi, rfl⟩
  unfold Builtin.SmallTypes.nextOf
  refine wpAny_bind (wpAny_callSpecial?_slot (name := Str.ofString "__next__") hT slot_dqi_next
    (wpAny_call_entry slot_dqi_next hT entry_dqi_next ?_ (args_dqi_next _)))
  show wpAny _ _ (Builtin.DequeIter.advance (.ref it) 1 >>= _) _ _ s
  refine wpAny_bind (dqi_adv_end hi ho ?_)
  exact dqi_stop hh fun h' x hk hx => hE h' x (fun b o _ e => hk b o e) hx
theorem draws_dq (hh : A.handled = none) (hne : q ≠ it) : Draws prog w A it [it, q] xs.length (fun i v => xs[i]? = some v) (fun i h => h.get? it = some (dqI q i st ((xs.length : Int) - i)) ∧ h.get? q = some (dqO st xs)) where
  live := fun _ _ hs => ⟨_, hs.1⟩
  frame := fun _ _ _ hs hk => ⟨hk it (by simp) _ hs.1, hk q (by simp) _ hs.2⟩
  item := fun i s Q E hi hs hQ => by
    refine dqi_nextOf_item hne hs.1 hs.2 (by omega) (x := xs[i]) (by simp [hi]) fun h' a b => ?_
    refine hQ _ h' s.toks (by simp [hi]) ⟨?_, (b.2 q hne).trans hs.2⟩ b
    rw [a]
    have e : ((xs.length : Int) - i - 1) = (xs.length : Int) - ((i + 1 : Nat) : Int) := by push_cast; omega
    rw [e]
  done := fun s Q E hs hE => by
    have h1 := hs.1
    rw [Int.sub_self] at h1
    exact dqi_nextOf_end hh h1 hs.2 hE
abbrev enO (it : Addr) : Obj := { cls := .type "enumerate", data := .fields #[.none, .bool false, .ref it, rawInt 0, .none, .none] }
theorem meets_enum_dq (q : Addr) (st : Int) (xs : List Value) :
    Meets (Builtin.«enumerate.__new__» ⟨[.type "enumerate", .ref q], []⟩) (fun _ R s => s.heap.get? q = some (dqO st xs) ∧
      R (.ok (.ret (.ref (s.heap.push (dqI q 0 st xs.length)).objs.size))) { s with heap := (s.heap.push (dqI q 0 st xs.length)).push (enO s.heap.objs.size) }) :=
  .of_wp fun prog w A R s h => by
    obtain ⟨hp, g, d, tk, os⟩ := s; obtain ⟨hl, h⟩ := h
    have hsub := sub_enumerate
    have hL : Heap.get? (Shared.heap ⟨hp, g, d, tk, os⟩) q = some (dqO st xs) := hl
    wp_walk using AutoSeq1.wpAny_loadPart' hl
    refine wpAny_stack_any fun stk => wpAny_pure ?_
    split
    · rename_i c _ _ _ _ _
      cases (c == Value.type "enumerate")
      · wp_walk using AutoSeq1.wpAny_loadPart' hl, dq_iter hL
        exact ⟨_, rfl, h⟩
      · wp_walk using AutoSeq1.wpAny_loadPart' hl, dq_iter hL
        exact ⟨_, rfl, h⟩
    · wp_walk using AutoSeq1.wpAny_loadPart' hl, dq_iter hL
      exact ⟨_, rfl, h⟩
theorem call_enum_dq {Q : Value → Shared → Prop} (hq : s.heap.get? q = some (dqO st xs))
    (h : ∀ h', IsEnum h' (s.heap.objs.size + 1) s.heap.objs.size 0 .none → h'.get? s.heap.objs.size = some (dqI q 0 st xs.length) →
      (∀ b o, s.heap.get? b = some o → h'.get? b = some o) → Q (.ref (s.heap.objs.size + 1)) { s with heap := h' }) :
    wpAny (model prog w) A (call (.type "enumerate") [.ref q]) Q E s := by
  refine callType_new PySem.F.called_enumerate (by decide) (PySem.F.typeCall_enumerate_1 _) (PySem.F.newCall_enumerate_1 _) (fun obj => PySem.F.args_object_init_2 obj _) PySem.F.entry_enumerate_new
    (meets_enum_dq q st xs) ⟨hq, ?_⟩
  have hz : (s.heap.push (dqI q 0 st xs.length)).objs.size = s.heap.objs.size + 1 := Heap.size_push ..
  show _ ∧ _
  rw [hz]
  have he : IsEnum ((s.heap.push (dqI q 0 st xs.length)).push (enO s.heap.objs.size)) (s.heap.objs.size + 1) s.heap.objs.size 0 .none := by
    have := Heap.get?_push_size (s.heap.push (dqI q 0 st xs.length)) (o := enO s.heap.objs.size) rfl
    rw [hz] at this; exact this
  exact ⟨⟨_, he, rfl⟩, h _ he (Heap.get?_push_of_some _ (Heap.get?_push_size _ rfl)) fun b o x => Heap.get?_push_of_some _ (Heap.get?_push_of_some _ x)⟩
end
end
end Mine
namespace Mine
section
open PySem PySem.W PySem.Calls PyProof.Rows
set_option maxRecDepth 100000
section
variable {prog : Program} {w : World} {A : Around} {s : Shared} {env : Env} {h₀ : Heap} {q it e : Addr} {st : Int} {xs : List Value} {ps : List Pr} {tl : List (Addr × Obj)}
/-- the end of a turn of the loop over the deque -/
def EStep (h₀ : Heap) (L e it : Addr) (oe oi : Obj) (J : (Str → Option Value) → List (Addr × Obj) → Prop) (s : Shared) (R : Result → Shared → Prop) (f : Flow) (s₃ : Shared) : Prop :=
  match f with
  | .ret v => R (.ok (.ret v)) s₃
  | .brk => R (.ok .next) s₃
  | _ => ∃ h' tk' m' nw', s₃ = { s with heap := h', toks := tk' } ∧ Fr h₀ L h' m' ∧ News h₀ L h' ((e, oe) :: (it, oi) :: nw') ∧ J m' nw'
theorem loop_dq {R : Result → Shared → Prop} {xi xa xb : Str} {p1 p2 p3 p4 p5 : Pos} {k1 k2 : Nat} {body : List Stmt} {m : Str → Option Value} {nw : List (Addr × Obj)} (hh : A.handled = none)
    (hxi : env.kindOf xi = some .local) (hxa : env.kindOf xa = some .local) (hxb : env.kindOf xb = some .local)
    (hp : (env.scope.kind == .class || (env.scope.kind == .module && env.locals != env.globals)) = false)
    (he : IsEnum s.heap e it 0 .none) (hi : s.heap.get? it = some (dqI q 0 st xs.length))
    (hei : e ≠ it) (hqe : q ≠ e) (hqi : q ≠ it) (hLe : env.locals ≠ e) (hLi : env.locals ≠ it) (hLq : env.locals ≠ q) (he0 : h₀.get? e = none) (hi0 : h₀.get? it = none)
    (F : Fr h₀ env.locals s.heap m) (N : News h₀ env.locals s.heap nw) (hps : Pairs tl xs ps)
    (J : Nat → (Str → Option Value) → List (Addr × Obj) → Prop) (h0 : J 0 m nw)
    (hJ : ∀ i m₁ nw₁, J i m₁ nw₁ → (q, dqO st xs) ∈ nw₁ ∧ (∀ p ∈ tl, p ∈ nw₁) ∧ ∀ p ∈ nw₁, p.1 ≠ e ∧ p.1 ≠ it)
    (turn : ∀ i p t ta tb m₁ nw₁ h tk oe oi, ps[i]? = some p → J i m₁ nw₁ →
      Fr h₀ env.locals h (fun y => if y = xb then some (.bytes p.2 tb) else if y = xa then some (.bytes p.1 ta) else if y = xi then some (.int (i : Int) t) else m₁ y) → News h₀ env.locals h ((e, oe) :: (it, oi) :: nw₁) →
      wpAny (model prog w) A (execs body env) (EStep h₀ env.locals e it oe oi (J (i + 1)) s R) (notedBy (model prog w) A env fun e s' => R (.error e) s') { s with heap := h, toks := tk })
    (done : ∀ h' tk m' nw', Fr h₀ env.locals h' m' → News h₀ env.locals h' nw' → J ps.length m' nw' → R (.ok .next) { s with heap := h', toks := tk }) :
    codeAny (model prog w) A (.forLoop (.Tuple [.Name xi p1, .Tuple [.Name xa p2, .Name xb p3] k2 p4] k1 p5) (.ref e) body [] env) R s := by
  have hlen := hps.len
  have hef : e ∉ [it, q] := by simp only [List.mem_cons, List.not_mem_nil, or_false, not_or]; exact ⟨hei, Ne.symm hqe⟩
  have W := WalksT.enumerateD (prog := prog) (w := w) (A := A) (draws_dq (st := st) (xs := xs) (A := A.in1) hh hqi) e hei hef (by simp)
  have hLw : env.locals ∉ [e, it] := by simp only [List.mem_cons, List.not_mem_nil, or_false, not_or]; exact ⟨hLe, hLi⟩
  have hLf : env.locals ∉ [e, it, q] := by simp only [List.mem_cons, List.not_mem_nil, or_false, not_or]; exact ⟨hLe, hLi, hLq⟩
  have hwr : ∀ b ∈ [e, it], h₀.get? b = none := by
    intro b hb
    simp only [List.mem_cons, List.not_mem_nil, or_false] at hb
    rcases hb with rfl | rfl
    · exact he0
    · exact hi0
  have old : ∀ b o, h₀.get? b = some o → b ∉ [e, it] := fun b o hb hm => by rw [hwr b hm] at hb; cases hb
  refine codeAny_forLoop_any
    (fun k s' => ∃ (h' : Heap) (tk : Nat) (m' : Str → Option Value) (nw' : List (Addr × Obj)) (i : Nat), s' = { s with heap := h', toks := tk } ∧ ((∃ old, IsEnum h' e it (i : Int) old) ∧ h'.get? it = some (dqI q i st ((xs.length : Int) - i)) ∧ h'.get? q = some (dqO st xs)) ∧ Fr h₀ env.locals h' m' ∧ News h₀ env.locals h' nw' ∧ J i m' nw' ∧ i ≤ xs.length ∧ k = xs.length + 1 - i) ?_ (xs.length + 1)
    ⟨s.heap, s.toks, m, nw, 0, rfl, ⟨⟨_, he⟩, by simpa using hi, (N _ (hJ _ _ _ h0).1).1⟩, F, N, h0, Nat.zero_le _, rfl⟩
  rintro k s' ⟨H, tk, m', nw', i, rfl, hst, F', N', hj, hle, rfl⟩
  obtain ⟨hq', htl, hoff⟩ := hJ _ _ _ hj
  have next : ∀ h₁ : Heap, (∀ b o, b ∉ [e, it] → H.get? b = some o → h₁.get? b = some o) → Fr h₀ env.locals h₁ m' ∧ News h₀ env.locals h₁ nw' := fun h₁ hk₁ =>
    ⟨⟨F'.ns.at' fun o x => hk₁ _ o hLw x, fun b o x => hk₁ b o (old b o x) (F'.keep b o x), F'.above⟩, fun p hp => ⟨hk₁ _ _ (by simp only [List.mem_cons, List.not_mem_nil, or_false, not_or]; exact hoff p hp) (N' p hp).1, (N' p hp).2⟩⟩
  by_cases hlt : i < xs.length
  · refine W.item i _ _ _ hlt hst fun T vals h₁ tk₁ hPt hTn hT hMid hk₁ => ?_
    obtain ⟨t, x, hx, rfl⟩ := hPt
    obtain ⟨p, hpi, D, ta, tb, rfl, hD⟩ := hps.get hx
    refine W.go _ k1 p5 i T _ _ _ hMid fun h₂ hst₂ hk₂ => ?_
    have ht₂ : h₂.IsTuple T #[.int (i : Int) t, .ref D] := hT.at fun o x => hk₂ T o (W.apart i T h₁ hMid) x
    refine wpAny_assign_Tuple hh ht₂ rfl rfl fun h₃ hx₃ => ?_
    replace hx₃ : Heap.ExtBut h₂.objs.size h₂ h₃ := hx₃
    have up₃ : ∀ b o, h₂.get? b = some o → h₃.get? b = some o := fun b o x => hx₃ b o (Nat.ne_of_lt (Heap.lt_size x)) x
    obtain ⟨F₃, N₃⟩ := next h₃ fun b o hb x => up₃ b o (hk₂ b o hb (hk₁ b o hb x))
    show wpAny _ A (do holding [Value.ref D] (assign (.Name xi p1) env (.int (i : Int) t)); do holding [] (assign (.Tuple [.Name xa p2, .Name xb p3] k2 p4) env (.ref D)); pure ()) _ _ _
    refine wpAny_bind (wpAny_holding (wpAny_assign_Name (wpAny_storeName_local hxi F₃.ns (fun h₄ hn₄ hs₄ => ?_) hp)))
    replace hs₄ : Heap.SameBut env.locals h₃ h₄ := hs₄
    have F₄ := F₃.set hn₄ hs₄
    have N₄ : News h₀ env.locals h₄ nw' := N₃.set hs₄
    refine wpAny_bind (wpAny_holding ?_)
    have hD₄ : h₄.IsTuple D #[.bytes p.1 ta, .bytes p.2 tb] := ⟨_, (N₄ _ (htl _ hD)).1, rfl, _, rfl⟩
    refine wpAny_assign_Tuple (s := { s with heap := h₄, toks := _ }) hh hD₄ rfl rfl fun h₅ hx₅ => ?_
    replace hx₅ : Heap.ExtBut h₄.objs.size h₄ h₅ := hx₅
    have up₅ : ∀ b o, h₄.get? b = some o → h₅.get? b = some o := fun b o x => hx₅ b o (Nat.ne_of_lt (Heap.lt_size x)) x
    have F₅ := F₄.keeps up₅
    have N₅ : News h₀ env.locals h₅ nw' := fun z hz => ⟨up₅ _ _ (N₄ z hz).1, (N₄ z hz).2⟩
    show wpAny _ A (do holding [Value.bytes p.2 tb] (assign (.Name xa p2) env (.bytes p.1 ta)); do holding [] (assign (.Name xb p3) env (.bytes p.2 tb)); pure ()) _ _ _
    refine wpAny_bind (wpAny_holding (wpAny_assign_Name (wpAny_storeName_local hxa F₅.ns (fun h₆ hn₆ hs₆ => ?_) hp)))
    replace hs₆ : Heap.SameBut env.locals h₅ h₆ := hs₆
    have F₆ := F₅.set hn₆ hs₆
    refine wpAny_bind (wpAny_holding (wpAny_assign_Name (wpAny_storeName_local hxb F₆.ns (fun h₇ hn₇ hs₇ => wpAny_pure (wpAny_pure ?_)) hp)))
    replace hs₇ : Heap.SameBut env.locals h₆ h₇ := hs₇
    have F₇ := F₆.set hn₇ hs₇
    have N₇ : News h₀ env.locals h₇ nw' := (N₅.set hs₆).set hs₇
    have up₇ : ∀ b o, b ≠ env.locals → h₂.get? b = some o → h₇.get? b = some o := fun b o hb x => hs₇.extBut b o hb (hs₆.extBut b o hb (up₅ b o (hs₄.extBut b o hb (up₃ b o x))))
    have hst₇ : (∃ old, IsEnum h₇ e it ((i + 1 : Nat) : Int) old) ∧ h₇.get? it = some (dqI q (i + 1) st ((xs.length : Int) - ((i + 1 : Nat) : Int))) ∧ h₇.get? q = some (dqO st xs) :=
      W.frame _ _ _ hst₂ fun b hb o x => up₇ b o (fun hq => hLf (hq ▸ hb)) x
    obtain ⟨⟨old', he₇⟩, hi₇, hq₇⟩ := hst₇
    have N₈ : News h₀ env.locals h₇ ((e, ({ cls := .type "enumerate", dict := none, data := .fields #[.none, .bool false, .ref it, rawInt ((i + 1 : Nat) : Int), .none, old'], slots := #[] } : Obj)) :: (it, dqI q (i + 1) st ((xs.length : Int) - ((i + 1 : Nat) : Int))) :: nw') := by
      intro z hz
      rcases List.mem_cons.mp hz with rfl | hz
      · exact ⟨he₇, Ne.symm hLe, he0⟩
      · rcases List.mem_cons.mp hz with rfl | hz
        · exact ⟨hi₇, Ne.symm hLi, hi0⟩
        · exact N₇ z hz
    refine wpAny_mono (turn i p t ta tb m' nw' h₇ _ _ _ hpi hj F₇ N₈) (fun f s₃ h₆ => ?_) fun _ _ x => x
    cases f with
    | ret v => exact h₆
    | brk => exact h₆
    | cont =>
      obtain ⟨h₉, tk₉, m₉, nw₉, rfl, F₉, N₉, hj₉⟩ := h₆
      exact ⟨xs.length + 1 - (i + 1), by omega, h₉, tk₉, m₉, nw₉, i + 1, rfl, ⟨⟨_, (N₉ _ (.head _)).1⟩, (N₉ _ (.tail _ (.head _))).1, (N₉ _ (.tail _ (.tail _ (hJ _ _ _ hj₉).1))).1⟩, F₉, fun z hz => N₉ z (.tail _ (.tail _ hz)), hj₉, hlt, rfl⟩
    | next =>
      obtain ⟨h₉, tk₉, m₉, nw₉, rfl, F₉, N₉, hj₉⟩ := h₆
      exact ⟨xs.length + 1 - (i + 1), by omega, h₉, tk₉, m₉, nw₉, i + 1, rfl, ⟨⟨_, (N₉ _ (.head _)).1⟩, (N₉ _ (.tail _ (.head _))).1, (N₉ _ (.tail _ (.tail _ (hJ _ _ _ hj₉).1))).1⟩, F₉, fun z hz => N₉ z (.tail _ (.tail _ hz)), hj₉, hlt, rfl⟩
  · have hin : i = xs.length := by omega
    subst hin
    refine W.done _ _ _ hst fun h₁ tk₁ hk₁ => wpAny_execs_nil ?_
    obtain ⟨F₁, N₁⟩ := next h₁ hk₁
    exact done h₁ tk₁ m' nw' F₁ N₁ (hlen ▸ hj)
end
end
end Mine
namespace Mine
section
open PySem PySem.W PySem.Calls PyProof.Rows
set_option maxRecDepth 100000
set_option maxHeartbeats 4000000
local macro_rules | `(tactic| walk_at "own:pad0") => `(tactic| skip)
local macro_rules | `(tactic| walk_at "own:pad1") => `(tactic| skip)
local macro_rules | `(tactic| walk_at "own:pad2") => `(tactic| skip)
local macro_rules | `(tactic| walk_at "own:pad3") => `(tactic| skip)
local macro_rules | `(tactic| walk_at "own:pad4") => `(tactic| skip)
local macro_rules | `(tactic| walk_at "own:pad5") => `(tactic| skip)
local macro_rules | `(tactic| walk_at "own:pad6") => `(tactic| skip)
local macro_rules | `(tactic| walk_at "own:pad7") => `(tactic| skip)
local macro_rules | `(tactic| walk_at "own:pad8") => `(tactic| skip)
local macro_rules | `(tactic| walk_at "own:pad9") => `(tactic| skip)
local macro_rules | `(tactic| walk_at "own:pad10") => `(tactic| skip)
local macro_rules | `(tactic| walk_at "getMethod ref") => `(tactic| (k_here; (with_reducible show wpAny _ _ (getMethod (Value.ref _) (PySem.Str.ofString "clear") _) _ _ _); k_dflt (refine' dq_method_K ?N ?m slot_dq_clear type_dq_clear ?_; (case N => k_asm); (case m => k_mem); k_whole)))
local macro_rules | `(tactic| walk_at "getMethod ref") => `(tactic| (k_here; (with_reducible show wpAny _ _ (getMethod (Value.ref _) (PySem.Str.ofString "appendleft") _) _ _ _); k_dflt (refine' dq_method_K ?N ?m slot_dq_appendleft type_dq_appendleft ?_; (case N => k_asm); (case m => k_mem); k_whole)))
local macro_rules | `(tactic| walk_at "getMethod ref") => `(tactic| (k_here; (with_reducible show wpAny _ _ (getMethod (Value.ref _) (PySem.Str.ofString "pop") _) _ _ _); k_dflt (refine' dq_method_K ?N ?m slot_dq_pop type_dq_pop ?_; (case N => k_asm); (case m => k_mem); k_whole)))
local macro_rules | `(tactic| walk_at "call builtin:collections.deque.clear") => `(tactic| (k_here; k_dflt (refine' dq_clear_K ?k1 ?k2 ?k3 ?_; (case k1 => k_asm); (case k2 => k_asm); (case k3 => k_upd); k_whole); intro h' F' N'; (try k_sweep)))
local macro_rules | `(tactic| walk_at "call builtin:collections.deque.appendleft") => `(tactic| (k_here; k_dflt (refine' dq_appendleft_K ?k1 ?k2 ?k3 ?z ?_; (case k1 => k_asm); (case k2 => k_asm); (case k3 => k_upd); (case z => assumption); k_whole); intro h' F' N'; (try k_sweep)))
local macro_rules | `(tactic| walk_at "call builtin:collections.deque.pop") => `(tactic| (k_here; k_dflt (refine' dq_pop_K ?k1 ?k2 ?k3 ?z ?_; (case k1 => k_asm); (case k2 => k_asm); (case k3 => k_upd); (case z => assumption); k_whole); intro h' F' N'; (try k_sweep)))
local macro_rules | `(tactic| walk_at "call builtin:len") => `(tactic| (k_here; (with_reducible show wpAny _ _ (call (Value.builtin "len") [Value.bytes _ _]) _ _ _); (refine len_bytes (by omega) ?_)))
local macro_rules | `(tactic| k_clsL) => `(tactic| first | with_reducible assumption | (refine List.mem_cons_of_mem _ ?_; k_clsL))
local macro_rules | `(tactic| k_mem) => `(tactic| k_clsL)
set_option hygiene false in
local macro_rules | `(tactic| walk_at "own:enter") => `(tactic| (
  refine' code_def B0 F X N Tp rfl hf hke ?k6 ?k7 ?k8 ?k9 ?kB ?_ ?c2 ?c3 ?c4 ?c5
  (case k6 => k_is)
  (case k7 => k_is)
  (case k8 => k_room)
  (case k9 => exact BindsTo.of_eq rfl)
  (case c5 => decide)
  (case kB => exact locs rfl)
  (case c2 => exact rfl)
  (case c3 => exact rfl)
  (case c4 => exact rfl)
  intro g' L' h' FG' F' N' B' X' T'
  (try dsimp only)
  (try k_lift B')
  (try k_fold)))
local macro_rules | `(tactic| walk_at "binaryOp Mult bytes int") => `(tactic| (k_here; k_dflt (refine' bytes_mul_any (b := [118]) ?b ?lo ?hi ?ln ?_; (case b => simp); (case lo => omega); (case hi => omega); (case ln => decide); k_whole); intro t' k'; (try dsimp only)))
local macro_rules | `(tactic| walk_at "call type:collections.deque") => `(tactic| (k_here; k_dflt (refine' dq_new_K ?k1 ?k2 ?_; (case k1 => k_asm); (case k2 => k_asm); k_whole); intro q' h' F' N' l1; (try k_lt l1); (try k_sweep)))
local macro_rules | `(tactic| walk_at "binaryOp Add ref ref") => `(tactic| (k_here; k_dflt (refine' add_KK ?F ?N ?a ?b ?z ?_; (case F => k_asm); (case N => k_asm); (case a => k_mem); (case b => k_mem); (case z => (first | omega | (simp only [List.length_cons, List.length_nil]; omega))); k_whole); intro D' h' F' N' l1; (try k_lt l1)))
local macro_rules | `(tactic| walk_at "call builtin:len") => `(tactic| (k_here; (with_reducible show wpAny _ _ (call (Value.builtin "len") [Value.ref _]) _ _ _); k_dflt (refine' dq_len_K ?N ?a ?z ?_; (case N => k_asm); (case a => k_mem); (case z => omega); k_whole); intro t' tk'))
local macro_rules | `(tactic| walk_at "call builtin:len") => `(tactic| (k_here; (with_reducible show wpAny _ _ (call (Value.builtin "len") [Value.ref _]) _ _ _); k_dflt (refine' len_KK ?N ?a ?z ?_; (case N => k_asm); (case a => k_mem); (case z => (first | omega | (simp only [List.length_append]; omega))); k_whole); intro t' tk'; (try simp only [List.length_append, List.length_cons, statL_len])))
local macro_rules | `(tactic| walk_at "subscriptTail") => `(tactic| (k_here; (with_reducible show wpAny _ _ (subscriptTail _ _ (Value.ref _) (Value.int _ _)) _ _ _); k_dflt (refine' item_KK ?N ?a ?b ?c ?z ?_ ?s; (case N => k_asm); (case a => k_mem); (case b => omega); (case c => (first | omega | (simp only [List.length_append, statL_len]; omega))); (case z => (first | omega | (simp only [List.length_append, statL_len]; omega))); (case s => with_unfolding_all rfl); k_whole); intro v' hv'))
local macro_rules | `(tactic| walk_at "subscriptTail") => `(tactic| (k_here; (with_reducible show wpAny _ _ (subscriptTail _ _ (Value.ref _) (Value.int _ _)) _ _ _); k_dflt (refine' ditem_KK ?N ?a ?b ?c ?z ?_ ?s; (case N => k_asm); (case a => k_mem); (case b => omega); (case c => omega); (case z => omega); (case s => with_unfolding_all rfl); k_whole); intro v' tk' hv'))
local macro_rules | `(tactic| walk_at "subscriptTail") => `(tactic| (k_here; (with_reducible show wpAny _ _ (subscriptTail _ _ (Value.ref 157) (Value.int _ _)) _ _ _); k_dflt (refine' sitem_KK ?N ?a ?b ?c ?_ ?s; (case N => k_asm); (case a => k_asm); (case b => omega); (case c => omega); (case s => with_unfolding_all rfl); k_whole); intro v' hv'))
def fnB (o : Obj) : List Stmt := match o.data with
  | .func f => match f.body with
    | .stmts b => b
    | _ => []
  | _ => []
def fnSc (o : Obj) : Scope := match o.data with
  | .func f => f.scope
  | _ => { kind := .function, names := [], isGenerator := false, isCoroutine := false }
noncomputable abbrev srchEnv (P : Params) (L : Addr) : Env := envOf (Str.ofString "HeaderTable.search") (fnSc (Mine.pre.o_211 P)) L 192 (.ref 191)
section
variable {w : World} {A A₀ : Around} {E : Value → Shared → Prop} {s : Shared} {h₀ base : Heap} {L : Addr} {m mg mb : Str → Option Value} {env env2 : Env} {outer : List Env} {mean : ExcName → Option Value}
/-- the names of a search's frame -/
def srchM (T : Addr) (n : Array UInt8) (tn : Tok) (v : Array UInt8) (tv : Tok) (pv : Value) (to : Tok) (u : Str → Option Value) : Str → Option Value :=
  fun y => if y = Str.ofString "partial" then some pv else if y = Str.ofString "offset" then some (.int 62 to) else if y = Str.ofString "self" then some (.ref T) else if y = Str.ofString "name" then some (.bytes n tn) else if y = Str.ofString "value" then some (.bytes v tv) else u y
theorem srchM_of {T : Addr} {n : Array UInt8} {tn : Tok} {v : Array UInt8} {tv : Tok} {pv : Value} {to : Tok} {m : Str → Option Value} (h1 : m (Str.ofString "partial") = some pv) (h2 : m (Str.ofString "offset") = some (.int 62 to)) (h3 : m (Str.ofString "self") = some (.ref T)) (h4 : m (Str.ofString "name") = some (.bytes n tn)) (h5 : m (Str.ofString "value") = some (.bytes v tv)) :
    m = srchM T n tn v tv pv to m := by
  funext y
  unfold srchM
  by_cases e1 : y = Str.ofString "partial"
  · subst e1; rw [if_pos rfl]; exact h1
  · rw [if_neg e1]
    by_cases e2 : y = Str.ofString "offset"
    · subst e2; rw [if_pos rfl]; exact h2
    · rw [if_neg e2]
      by_cases e3 : y = Str.ofString "self"
      · subst e3; rw [if_pos rfl]; exact h3
      · rw [if_neg e3]
        by_cases e4 : y = Str.ofString "name"
        · subst e4; rw [if_pos rfl]; exact h4
        · rw [if_neg e4]
          by_cases e5 : y = Str.ofString "value"
          · subst e5; rw [if_pos rfl]; exact h5
          · rw [if_neg e5]
/-- what is found so far, in the ledger -/
def PVal (nw : List (Addr × Obj)) (n : Array UInt8) : Option (Int × Bool) → Value → Prop
  | none, x => x = .none
  | some (k, b), x => b = false ∧ ∃ D t tn, x = .ref D ∧ (D, ({ cls := .type "tuple", data := .seq #[.int k t, .bytes n tn, .none] } : Obj)) ∈ nw
theorem PVal.mono {nw nw' : List (Addr × Obj)} {n : Array UInt8} (hs : ∀ p ∈ nw, p ∈ nw') : ∀ {d : Option (Int × Bool)} {x : Value}, PVal nw n d x → PVal nw' n d x
  | none, _, h => h
  | some _, _, ⟨hb, D, t, tn, e, h⟩ => ⟨hb, D, t, tn, e, hs _ h⟩
theorem PVal.res {nw : List (Addr × Obj)} {n v : Array UInt8} {h : Heap} (N : News h₀ L h nw) : ∀ {d : Option (Int × Bool)} {x : Value}, PVal nw n d x → FRes h n v d x
  | none, _, e => e
  | some (k, b), _, ⟨hb, D, t, tn, e, hm⟩ => by
    subst hb
    exact ⟨D, t, tn, .none, e, rfl, ⟨_, (N _ hm).1, rfl, _, rfl⟩⟩
/-- what a search gives, in the ledger -/
def FResN (nw : List (Addr × Obj)) (n v : Array UInt8) : Option (Int × Bool) → Value → Prop
  | none, x => x = .none
  | some (k, b), x => ∃ D t tn y, x = .ref D ∧ FVal v b y ∧ (D, ({ cls := .type "tuple", data := .seq (fItems k t n tn y) } : Obj)) ∈ nw
theorem FResN.mono {nw nw' : List (Addr × Obj)} {n v : Array UInt8} (hs : ∀ p ∈ nw, p ∈ nw') : ∀ {d : Option (Int × Bool)} {x : Value}, FResN nw n v d x → FResN nw' n v d x
  | none, _, h => h
  | some _, _, ⟨D, t, tn, y, e, hv, h⟩ => ⟨D, t, tn, y, e, hv, hs _ h⟩
theorem FResN.res {nw : List (Addr × Obj)} {n v : Array UInt8} {h : Heap} (N : News h₀ L h nw) : ∀ {d : Option (Int × Bool)} {x : Value}, FResN nw n v d x → FRes h n v d x
  | none, _, e => e
  | some (k, b), _, ⟨D, t, tn, y, e, hv, hm⟩ => ⟨D, t, tn, y, e, hv, ⟨_, (N _ hm).1, rfl, _, rfl⟩⟩
theorem PVal.resN {nw : List (Addr × Obj)} {n v : Array UInt8} : ∀ {d : Option (Int × Bool)} {x : Value}, PVal nw n d x → FResN nw n v d x
  | none, _, e => e
  | some (k, b), _, ⟨hb, D, t, tn, e, hm⟩ => by
    subst hb
    exact ⟨D, t, tn, .none, e, rfl, hm⟩
def SrJ (T : Addr) (n : Array UInt8) (tn : Tok) (v : Array UInt8) (tv : Tok) (to : Tok) (ps : List Pr) (part : Option (Int × Bool)) (e it : Addr) (nw : List (Addr × Obj)) (i : Nat) (m : Str → Option Value) (news : List (Addr × Obj)) : Prop :=
  ∃ (ex : List (Addr × Obj)) (pv : Value) (u : Str → Option Value), news = ex ++ nw ∧ (∀ p ∈ ex, (∀ z ∈ nw, z.1 < p.1) ∧ @Ne Nat p.1 e ∧ @Ne Nat p.1 it) ∧ m = srchM T n tn v tv pv to u ∧ PVal (ex ++ nw) n (partI ps (n, v) part i) pv ∧ ∀ j < i, selW ps (n, v) j = false
theorem ex3 {a b c : Addr × Obj} {ex nw : List (Addr × Obj)} : ∀ z ∈ (a :: ex) ++ nw, z ∈ a :: b :: c :: (ex ++ nw) := by
  intro z hz
  rcases List.mem_cons.mp hz with rfl | hz
  · exact .head _
  · exact .tail _ (.tail _ (.tail _ hz))
theorem ex3' {a b c : Addr × Obj} {ex nw : List (Addr × Obj)} : ∀ z ∈ b :: c :: ((a :: ex) ++ nw), z ∈ a :: b :: c :: (ex ++ nw) := by
  intro z hz
  simp only [List.cons_append, List.mem_cons] at hz ⊢
  rcases hz with h | h | h | h
  · exact .inr (.inl h)
  · exact .inr (.inr (.inl h))
  · exact .inl h
  · exact .inr (.inr (.inr h))
theorem prEq_v {a p2 v : Array UInt8} (h : ¬ p2 = v) : prEq (a, p2) (a, v) = false := by
  cases hq : prEq (a, p2) (a, v) with
  | false => rfl
  | true => exact absurd (congrArg Prod.snd ((prEq_iff _ _).mp hq)) h
theorem prEq_n {p1 n p2 v : Array UInt8} (h : ¬ p1 = n) : prEq (p1, p2) (n, v) = false := by
  cases hq : prEq (p1, p2) (n, v) with
  | false => rfl
  | true => exact absurd (congrArg Prod.fst ((prEq_iff _ _).mp hq)) h
theorem sel_next {ps : List Pr} {p r : Pr} {i : Nat} (h : ∀ j < i, selW ps p j = false) (hr : ps[i]? = some r) (he : prEq r p = false) : ∀ j < i + 1, selW ps p j = false := by
  intro j hj
  rcases Nat.lt_or_ge j i with h1 | h1
  · exact h j h1
  · have : j = i := by omega
    subst this
    unfold selW; rw [hr]; exact he
theorem arr_ne {a b : Array UInt8} (h : ¬ a = b) : (a.toList == b.toList) = false := by
  cases hq : a.toList == b.toList with
  | false => rfl
  | true => exact absurd (Array.toList_inj.mp (beq_iff_eq.mp hq)) h
local macro_rules | `(tactic| walk_at "compareOp Eq bytes bytes") => `(tactic| (k_here; refine eq_bytes ?_; first | rw [beq_self_eq_true] | (rename (_ == _) = false => hbq; rw [hbq])))
local macro_rules | `(tactic| walk_at "call type:enumerate") => `(tactic| (refine' Hold.get ?_))
set_option pp.deepTerms false in
set_option pp.maxSteps 3000 in
theorem srch_loop {Q : Flow → Shared → Prop} {T d q : Addr} {mx cs st : Int} {tm tc t1 t2 t3 t4 tn tv to : Tok} {rz : Bool} {xs : List Value} {ps : List Pr} {tl : List (Addr × Obj)} {n v : Array UInt8} {pv : Value} {part : Option (Int × Bool)} {u : Str → Option Value}
    (B0 : Below (callerA.deeper env2) base [env2] h₀) (F : Fr h₀ L s.heap (srchM T n tn v tv pv to u)) (X : (KK w.params).In h₀) (Tp : Top qv (looseW qv qloose) mean mg mb h₀)
    (N : News h₀ L s.heap ((T, instObj 219 d) :: (d, tabD w.params q mx cs tm tc t1 t2 t3 t4 rz) :: (q, dqO st xs) :: tl))
    (hps : Pairs tl xs ps) (hxs : xs.length ≤ 1000) (hpv : PVal tl n part pv)
    (hQ : ∀ h' tk r ex m', Fr h₀ L h' m' → News h₀ L h' (ex ++ ((T, instObj 219 d) :: (d, tabD w.params q mx cs tm tc t1 t2 t3 t4 rz) :: (q, dqO st xs) :: tl)) → (∀ p ∈ ex, ∀ z ∈ ((T, instObj 219 d) :: (d, tabD w.params q mx cs tm tc t1 t2 t3 t4 rz) :: (q, dqO st xs) :: tl), z.1 < p.1) →
      FResN (ex ++ ((T, instObj 219 d) :: (d, tabD w.params q mx cs tm tc t1 t2 t3 t4 rz) :: (q, dqO st xs) :: tl)) n v (dynD ps (n, v) part) r → Q (.ret r) { s with heap := h', toks := tk }) :
    wpAny (model pw w) ((callerA.deeper env2).deeper (srchEnv w.params L)) (execs ((fnB (Mine.pre.o_211 w.params)).drop 4) (srchEnv w.params L)) Q (fun _ _ => False) s := by
  have law : PySem.Challenge.rw_ds0003_01 = PySem.Challenge.rw_ds0003_01 ∧ KK = KK := ⟨rfl, rfl⟩
  revert law
  k_fill
  intro law
  conv in (List.drop 4 _) => whnf
  delta srchEnv at *
  iterate 1 (first | (k_unfold; (try dsimp only)) | walk1)
  refine wpAny_For ?_ (by intro _; with_unfolding_all rfl)
  unfold srchM at F
  k_steps
  unfold Hold
  rename Fr h₀ L _ _ => F5
  rename News h₀ L _ _ => N5
  have hqm : (q, dqO st xs) ∈ ((T, instObj 219 d) :: (d, tabD w.params q mx cs tm tc t1 t2 t3 t4 rz) :: (q, dqO st xs) :: tl) := .tail _ (.tail _ (.head _))
  refine call_enum_dq (N5 _ hqm).1 fun h6 he hi hk => ?_
  have F6 := F5.keeps hk
  have N6 : News h₀ L h6 ((T, instObj 219 d) :: (d, tabD w.params q mx cs tm tc t1 t2 t3 t4 rz) :: (q, dqO st xs) :: tl) := fun z hz => ⟨hk _ _ (N5 z hz).1, (N5 z hz).2⟩
  have hlt6 := fun z hz => Heap.lt_size (N5 z hz).1
  have hL6 := F5.ns.lt
  have hn6 := next_is_new F5
  have hn7 : h₀.get? (s.heap.objs.size + 1) = none := Heap.get?_none_of_le (Nat.le_trans F5.above (Nat.le_of_lt (Nat.lt_succ_of_lt hL6)))
  dsimp only at hlt6 hL6 hn6 hn7 he hi ⊢
  refine wpAny_pyIter_enum he ?_
  generalize hNW : ((T, instObj 219 d) :: (d, tabD w.params q mx cs tm tc t1 t2 t3 t4 rz) :: (q, dqO st xs) :: tl : List (Addr × Obj)) = nwS at *
  have htlS : ∀ p ∈ tl, p ∈ nwS := fun p hp => hNW ▸ up3 p hp
  have hq6 := hlt6 _ hqm
  refine loop_dq (h₀ := h₀) (tl := tl) (ps := ps) rfl rfl rfl rfl rfl he hi (Nat.succ_ne_self _) (Nat.ne_of_lt (Nat.lt_succ_of_lt hq6)) (Nat.ne_of_lt hq6) (Nat.ne_of_lt (Nat.lt_succ_of_lt hL6)) (Nat.ne_of_lt hL6) ?_ hn7 hn6 F6 N6 hps (SrJ T n tn v tv to ps part (s.heap.objs.size + 1) s.heap.objs.size nwS) ?_ ?_ ?_ ?_
  · exact fun h => (N6 _ hqm).2.1 h.symm
  · exact ⟨[], pv, u, rfl, (fun p hp => nomatch hp), rfl, by rw [partI_zero]; exact hpv.mono htlS, fun j hj => absurd hj (Nat.not_lt_zero _)⟩
  · rintro i m₁ nw₁ ⟨ex, pv', u', rfl, hex, rfl, hp', hs'⟩
    refine ⟨List.mem_append_right _ hqm, fun p hp => List.mem_append_right _ (htlS p hp), fun p hp => ?_⟩
    rcases List.mem_append.mp hp with hp | hp
    · exact (hex p hp).2
    · exact ⟨Nat.ne_of_lt (Nat.lt_succ_of_lt (hlt6 p hp)), Nat.ne_of_lt (hlt6 p hp)⟩
  · rintro i ⟨p1, p2⟩ t ta tb m₁ nw₁ h tk oe oi hpi ⟨ex, pv', u', rfl, hex, rfl, hp', hs'⟩ F2 N2
    unfold srchM at F2
    by_cases hn : p1 = n
    · subst hn
      by_cases hv : p2 = v
      · subst hv
        k_steps
        rename Fr h₀ _ _ _ => F9
        rename News h₀ _ _ _ => N9
        rename _ < _ ∧ _ < _ ∧ AllLt _ (ex ++ nwS) => l9
        refine hQ _ _ _ (_ :: ex) _ F9 (fun z hz => N9 z (ex3 z hz)) ?_ ?_
        · intro p hp z hz
          rcases List.mem_cons.mp hp with rfl | hp
          · exact allLt_to l9.2.2 z (List.mem_append_right _ hz)
          · exact (hex p hp).1 z hz
        · rw [dyn_hit hs' hpi (prEq_self _)]
          exact ⟨_, _, _, _, rfl, ⟨_, rfl⟩, .head _⟩
      · have hvf := arr_ne hv
        cases hpt : partI ps (p1, v) part i with
        | none =>
          rw [hpt] at hp'
          cases hp'
          k_steps
          rename Fr h₀ L _ _ => F9
          rename News h₀ L _ _ => N9
          rename _ < _ ∧ _ < _ ∧ AllLt _ (ex ++ nwS) => l9
          refine ⟨_, _, _, (_ :: ex) ++ nwS, rfl, F9, (fun z hz => N9 z (ex3' z hz)), _ :: ex, _, _, rfl, ?_, srchM_of rfl rfl rfl rfl rfl, ?_, ?_⟩
          · intro p hp
            rcases List.mem_cons.mp hp with rfl | hp
            · exact ⟨fun z hz => allLt_to l9.2.2 z (List.mem_append_right _ hz), Nat.ne_of_gt l9.1, Nat.ne_of_gt l9.2.1⟩
            · exact hex p hp
          · rw [partI_hit (p := (p1, v)) hpi (by simp) hpt]
            exact ⟨rfl, _, _, _, rfl, .head _⟩
          · exact sel_next hs' hpi (prEq_v hv)
        | some x =>
          rw [hpt] at hp'
          obtain ⟨k, b⟩ := x
          obtain ⟨hb, D, tD, tD', rfl, hD⟩ := hp'
          k_steps
          rename Fr h₀ _ _ _ => F9
          rename News h₀ _ _ _ => N9
          refine ⟨_, _, _, ex ++ nwS, rfl, F9, N9, ex, _, _, rfl, hex, srchM_of rfl rfl rfl rfl rfl, ?_, ?_⟩
          · rw [partI_had hpt]
            exact ⟨hb, _, _, _, rfl, hD⟩
          · exact sel_next hs' hpi (prEq_v hv)
    · have hnf := arr_ne hn
      have hnf' := hnf
      k_steps
      rename Fr h₀ _ _ _ => F9
      rename News h₀ _ _ _ => N9
      refine ⟨_, _, _, ex ++ nwS, rfl, F9, N9, ex, _, _, rfl, hex, srchM_of rfl rfl rfl rfl rfl, ?_, ?_⟩
      · rw [partI_miss hpi (arr_ne hn)]
        exact hp'
      · exact sel_next hs' hpi (prEq_n hn)
  · rintro h' tk m' nw' F' N' ⟨ex, pv', u', rfl, hex, rfl, hp', hs'⟩
    unfold srchM at F'
    dsimp only
    k_steps
    rename Fr h₀ _ _ _ => F9
    rename News h₀ _ _ _ => N9
    refine hQ _ _ _ ex _ F9 N9 (fun p hp => (hex p hp).1) ?_
    rw [dyn_end hs']
    exact PVal.resN hp'
end
end
end Mine
namespace Mine
section
open PySem PySem.W PySem.Calls PyProof.Rows
set_option maxRecDepth 100000
set_option maxHeartbeats 4000000
local macro_rules | `(tactic| walk_at "own:pad0") => `(tactic| skip)
local macro_rules | `(tactic| walk_at "own:pad1") => `(tactic| skip)
local macro_rules | `(tactic| walk_at "own:pad2") => `(tactic| skip)
local macro_rules | `(tactic| walk_at "own:pad3") => `(tactic| skip)
local macro_rules | `(tactic| walk_at "own:pad4") => `(tactic| skip)
local macro_rules | `(tactic| walk_at "own:pad5") => `(tactic| skip)
local macro_rules | `(tactic| walk_at "own:pad6") => `(tactic| skip)
local macro_rules | `(tactic| walk_at "own:pad7") => `(tactic| skip)
local macro_rules | `(tactic| walk_at "own:pad8") => `(tactic| skip)
local macro_rules | `(tactic| walk_at "own:pad9") => `(tactic| skip)
local macro_rules | `(tactic| walk_at "own:pad10") => `(tactic| skip)
local macro_rules | `(tactic| walk_at "own:pad11") => `(tactic| skip)
local macro_rules | `(tactic| walk_at "own:pad12") => `(tactic| skip)
local macro_rules | `(tactic| walk_at "own:pad13") => `(tactic| skip)
local macro_rules | `(tactic| walk_at "getMethod ref") => `(tactic| (k_here; (with_reducible show wpAny _ _ (getMethod (Value.ref _) (PySem.Str.ofString "clear") _) _ _ _); k_dflt (refine' dq_method_K ?N ?m slot_dq_clear type_dq_clear ?_; (case N => k_asm); (case m => k_mem); k_whole)))
local macro_rules | `(tactic| walk_at "getMethod ref") => `(tactic| (k_here; (with_reducible show wpAny _ _ (getMethod (Value.ref _) (PySem.Str.ofString "appendleft") _) _ _ _); k_dflt (refine' dq_method_K ?N ?m slot_dq_appendleft type_dq_appendleft ?_; (case N => k_asm); (case m => k_mem); k_whole)))
local macro_rules | `(tactic| walk_at "getMethod ref") => `(tactic| (k_here; (with_reducible show wpAny _ _ (getMethod (Value.ref _) (PySem.Str.ofString "pop") _) _ _ _); k_dflt (refine' dq_method_K ?N ?m slot_dq_pop type_dq_pop ?_; (case N => k_asm); (case m => k_mem); k_whole)))
local macro_rules | `(tactic| walk_at "call builtin:collections.deque.clear") => `(tactic| (k_here; k_dflt (refine' dq_clear_K ?k1 ?k2 ?k3 ?_; (case k1 => k_asm); (case k2 => k_asm); (case k3 => k_upd); k_whole); intro h' F' N'; (try k_sweep)))
local macro_rules | `(tactic| walk_at "call builtin:collections.deque.appendleft") => `(tactic| (k_here; k_dflt (refine' dq_appendleft_K ?k1 ?k2 ?k3 ?z ?_; (case k1 => k_asm); (case k2 => k_asm); (case k3 => k_upd); (case z => assumption); k_whole); intro h' F' N'; (try k_sweep)))
local macro_rules | `(tactic| walk_at "call builtin:collections.deque.pop") => `(tactic| (k_here; k_dflt (refine' dq_pop_K ?k1 ?k2 ?k3 ?z ?_; (case k1 => k_asm); (case k2 => k_asm); (case k3 => k_upd); (case z => assumption); k_whole); intro h' F' N'; (try k_sweep)))
local macro_rules | `(tactic| walk_at "call builtin:len") => `(tactic| (k_here; (with_reducible show wpAny _ _ (call (Value.builtin "len") [Value.bytes _ _]) _ _ _); (refine len_bytes (by omega) ?_)))
local macro_rules | `(tactic| k_clsL) => `(tactic| first | with_reducible assumption | (refine List.mem_cons_of_mem _ ?_; k_clsL))
local macro_rules | `(tactic| k_mem) => `(tactic| k_clsL)
set_option hygiene false in
local macro_rules | `(tactic| walk_at "own:enter") => `(tactic| (
  refine' code_def B0 F X N Tp rfl hf hke ?k6 ?k7 ?k8 ?k9 ?kB ?_ ?c2 ?c3 ?c4 ?c5
  (case k6 => k_is)
  (case k7 => k_is)
  (case k8 => k_room)
  (case k9 => exact BindsTo.of_eq rfl)
  (case c5 => decide)
  (case kB => exact locs rfl)
  (case c2 => exact rfl)
  (case c3 => exact rfl)
  (case c4 => exact rfl)
  intro g' L' h' FG' F' N' B' X' T'
  (try dsimp only)
  (try k_lift B')
  (try k_fold)))
local macro_rules | `(tactic| walk_at "binaryOp Mult bytes int") => `(tactic| (k_here; k_dflt (refine' bytes_mul_any (b := [118]) ?b ?lo ?hi ?ln ?_; (case b => simp); (case lo => omega); (case hi => omega); (case ln => decide); k_whole); intro t' k'; (try dsimp only)))
local macro_rules | `(tactic| walk_at "call type:collections.deque") => `(tactic| (k_here; k_dflt (refine' dq_new_K ?k1 ?k2 ?_; (case k1 => k_asm); (case k2 => k_asm); k_whole); intro q' h' F' N' l1; (try k_lt l1); (try k_sweep)))
local macro_rules | `(tactic| walk_at "binaryOp Add ref ref") => `(tactic| (k_here; k_dflt (refine' add_KK ?F ?N ?a ?b ?z ?_; (case F => k_asm); (case N => k_asm); (case a => k_mem); (case b => k_mem); (case z => (first | omega | (simp only [List.length_cons, List.length_nil]; omega))); k_whole); intro D' h' F' N' l1; (try k_lt l1)))
local macro_rules | `(tactic| walk_at "call builtin:len") => `(tactic| (k_here; (with_reducible show wpAny _ _ (call (Value.builtin "len") [Value.ref _]) _ _ _); k_dflt (refine' dq_len_K ?N ?a ?z ?_; (case N => k_asm); (case a => k_mem); (case z => omega); k_whole); intro t' tk'))
local macro_rules | `(tactic| walk_at "call builtin:len") => `(tactic| (k_here; (with_reducible show wpAny _ _ (call (Value.builtin "len") [Value.ref _]) _ _ _); k_dflt (refine' len_KK ?N ?a ?z ?_; (case N => k_asm); (case a => k_mem); (case z => (first | omega | (simp only [List.length_append]; omega))); k_whole); intro t' tk'; (try simp only [List.length_append, List.length_cons, statL_len])))
local macro_rules | `(tactic| walk_at "subscriptTail") => `(tactic| (k_here; (with_reducible show wpAny _ _ (subscriptTail _ _ (Value.ref _) (Value.int _ _)) _ _ _); k_dflt (refine' item_KK ?N ?a ?b ?c ?z ?_ ?s; (case N => k_asm); (case a => k_mem); (case b => omega); (case c => (first | omega | (simp only [List.length_append, statL_len]; omega))); (case z => (first | omega | (simp only [List.length_append, statL_len]; omega))); (case s => with_unfolding_all rfl); k_whole); intro v' hv'))
local macro_rules | `(tactic| walk_at "subscriptTail") => `(tactic| (k_here; (with_reducible show wpAny _ _ (subscriptTail _ _ (Value.ref _) (Value.int _ _)) _ _ _); k_dflt (refine' ditem_KK ?N ?a ?b ?c ?z ?_ ?s; (case N => k_asm); (case a => k_mem); (case b => omega); (case c => omega); (case z => omega); (case s => with_unfolding_all rfl); k_whole); intro v' tk' hv'))
local macro_rules | `(tactic| walk_at "subscriptTail") => `(tactic| (k_here; (with_reducible show wpAny _ _ (subscriptTail _ _ (Value.ref 157) (Value.int _ _)) _ _ _); k_dflt (refine' sitem_KK ?N ?a ?b ?c ?_ ?s; (case N => k_asm); (case a => k_asm); (case b => omega); (case c => omega); (case s => with_unfolding_all rfl); k_whole); intro v' hv'))
section
variable {w : World} {A A₀ : Around} {E : Value → Shared → Prop} {s : Shared} {h₀ base : Heap} {L : Addr} {m mg mb : Str → Option Value} {env env2 : Env} {outer : List Env} {mean : ExcName → Option Value}
theorem map_method_K {d : Addr} {f : List UInt8 → Option Value} {pl : Sem Bool} {Q : Value × List Value → Shared → Prop} (F : Fr h₀ L s.heap m) (hm : h₀.MapOf (bytesKind pw w) d f) (h : Q (.builtin "dict.get", [.ref d]) s) :
    wpAny (model pw w) A (getMethod (.ref d) (Str.ofString "get") pl) Q E s := by
  have hm' := MapOf.keeps hm F.keep
  exact getMethod_builtin hm'.typeIs PySem.F.plainAttrs_dict PySem.F.slot_dict_get PySem.F.type_dict_get hm'.noDict h
theorem map_get_K {d : Addr} {f : List UInt8 → Option Value} {b : Array UInt8} {t : Tok} {o : Option Value} {Q : Value → Shared → Prop} (F : Fr h₀ L s.heap m) (hm : h₀.MapOf (bytesKind pw w) d f) (lo : (d == sysModules) = false) (hv : f b.toList = o)
    (h : Q (o.getD .none) { s with toks := s.toks + 1 }) : wpAny (model pw w) A (call (.builtin "dict.get") [.ref d, .bytes b t]) Q E s := by
  have hm' := MapOf.keeps hm F.keep
  subst hv
  exact call_meetsIn PySem.F.slot_dict_get hm'.typeIs PySem.F.entry_dict_get (PySem.F.args_dict_get_2 _ _) (meets_dict_get (bytesKind pw w) d (isB b t) lo) ⟨_, hm', h⟩
theorem app_mid {ex tl : List (Addr × Obj)} {x a b c : Addr × Obj} : ∀ p ∈ (ex ++ [x]) ++ (a :: b :: c :: tl), p ∈ ex ++ (a :: b :: c :: x :: tl) := by
  intro p hp
  simp only [List.append_assoc, List.mem_append, List.mem_cons, List.not_mem_nil, or_false] at hp ⊢
  rcases hp with h | h | h | h | h | h
  · exact .inl h
  · exact .inr (.inr (.inr (.inr (.inl h))))
  · exact .inr (.inl h)
  · exact .inr (.inr (.inl h))
  · exact .inr (.inr (.inr (.inl h)))
  · exact .inr (.inr (.inr (.inr (.inr h))))
theorem app_mid' {ex tl : List (Addr × Obj)} {x a b c : Addr × Obj} : ∀ p ∈ ex ++ (a :: b :: c :: x :: tl), p ∈ (ex ++ [x]) ++ (a :: b :: c :: tl) := by
  intro p hp
  simp only [List.append_assoc, List.mem_append, List.mem_cons, List.not_mem_nil, or_false] at hp ⊢
  rcases hp with h | h | h | h | h | h
  · exact .inl h
  · exact .inr (.inr (.inl h))
  · exact .inr (.inr (.inr (.inl h)))
  · exact .inr (.inr (.inr (.inr (.inl h))))
  · exact .inr (.inl h)
  · exact .inr (.inr (.inr (.inr (.inr h))))
theorem lt_mid {ex tl : List (Addr × Obj)} {a b c : Addr × Obj} {D : Addr} {o : Obj} (h : ∀ p ∈ ex, ∀ z ∈ a :: b :: c :: (D, o) :: tl, z.1 < p.1) (h' : a.1 < D ∧ b.1 < D ∧ c.1 < D ∧ AllLt D tl) : ∀ p ∈ ex ++ [(D, o)], ∀ z ∈ a :: b :: c :: tl, z.1 < p.1 := by
  intro p hp z hz
  rcases List.mem_append.mp hp with hp | hp
  · refine h p hp z ?_
    simp only [List.mem_cons] at hz ⊢
    rcases hz with h | h | h | h
    · exact .inl h
    · exact .inr (.inl h)
    · exact .inr (.inr (.inl h))
    · exact .inr (.inr (.inr (.inr h)))
  · rw [List.mem_singleton.mp hp]
    exact allLt_to (l := a :: b :: c :: tl) h' z hz
theorem cons_in {K : Frag} {h : Heap} {d : Addr} {o : Obj} (X : K.In h) (hd : h.get? d = some o) : Frag.In ((d, o) :: K) h := by
  intro a o' ha
  rw [List.lookup_cons] at ha
  cases hq : a == d with
  | true =>
    rw [hq] at ha
    cases ha
    rw [beq_iff_eq.mp hq]; exact hd
  | false =>
    rw [hq] at ha
    exact X a o' ha
theorem smap_K {f : List UInt8 → Option Value} {expr : Bool} {Q : Value → Shared → Prop} (F : Fr h₀ L s.heap m) (X : (KK w.params).In h₀) (hm : h₀.MapOf (bytesKind pw w) 232 f) (h : ∀ tk, Q (.ref 232) { s with toks := tk }) :
    wpAny (model pw w) A (getAttr (.ref 219) (Str.ofString "STATIC_TABLE_MAPPING") expr) Q E s := by
  obtain ⟨o, es, ep, ho, ⟨c1, c2, c3⟩, hd, _⟩ := hm
  obtain ⟨oc, od, odt, os⟩ := o
  dsimp only at c1 c2 c3 hd
  subst c1 c2 c3 hd
  refine cls_val (mc := .type "type") (K := (232, ⟨.type "dict", none, .dict es ep, #[]⟩) :: KK w.params) F (cons_in X ho) (by kernel_rfl) (by kernel_rfl) (by kernel_rfl) (by rfl) (h _)
theorem tup_truthy_K {d : Addr} {x y : Value} {Q : Bool → Shared → Prop} (F : Fr h₀ L s.heap m) (ht : IsT h₀ d #[x, y] 0) (h : ∀ tk, Q true { s with toks := tk }) : wpAny (model pw w) A (truthy (.ref d)) Q E s :=
  ktl_truthy (F.keep _ _ ht) (by show ¬ ((2 : Nat) : Int) ≥ 2 ^ 63; decide) (h _)
theorem tup_i0_K {value slice : PySem.Expr} {d : Addr} {x y : Value} {u : Tok} {Q : Value → Shared → Prop} (F : Fr h₀ L s.heap m) (ht : IsT h₀ d #[x, y] 0) (h : Q x s)
    (hs : subscripted slice false (.ref d) (.int 0 u) = operate [.ref d, .int 0 u] (getItem (.ref d) (.int 0 u)) := by with_unfolding_all rfl) (hg : ∀ r, letTemporaryGo value (.ref d) r = pure () := by intro _; with_unfolding_all rfl) :
    wpAny (model pw w) A (subscriptTail value slice (.ref d) (.int 0 u)) Q E s := item_tuple (j := 0) ⟨_, F.keep _ _ ht, rfl, _, rfl⟩ (by decide) (by decide) rfl rfl h hs hg
theorem tup_i1_K {value slice : PySem.Expr} {d : Addr} {x y : Value} {u : Tok} {Q : Value → Shared → Prop} (F : Fr h₀ L s.heap m) (ht : IsT h₀ d #[x, y] 0) (h : Q y s)
    (hs : subscripted slice false (.ref d) (.int 1 u) = operate [.ref d, .int 1 u] (getItem (.ref d) (.int 1 u)) := by with_unfolding_all rfl) (hg : ∀ r, letTemporaryGo value (.ref d) r = pure () := by intro _; with_unfolding_all rfl) :
    wpAny (model pw w) A (subscriptTail value slice (.ref d) (.int 1 u)) Q E s := item_tuple (j := 1) ⟨_, F.keep _ _ ht, rfl, _, rfl⟩ (by decide) (by decide) rfl rfl h hs hg
local macro_rules | `(tactic| walk_at "getMethod ref") => `(tactic| (k_here; (with_reducible show wpAny _ _ (getMethod (Value.ref _) (PySem.Str.ofString "get") _) _ _ _); k_dflt (refine' map_method_K ?F ?m ?_; (case F => k_asm); (case m => assumption); k_whole)))
local macro_rules | `(tactic| walk_at "getAttr ref") => `(tactic| (k_here; (with_reducible show wpAny _ _ (getAttr (Value.ref _) (PySem.Str.ofString "STATIC_TABLE_MAPPING") _) _ _ _); k_dflt (refine' smap_K ?F ?X ?m ?_; (case F => k_asm); (case X => k_asm); (case m => assumption); k_whole); intro tk'))
local macro_rules | `(tactic| walk_at "call builtin:dict.get") => `(tactic| (k_here; k_dflt (refine' map_get_K ?F ?m ?l ?v ?_; (case F => k_asm); (case m => assumption); (case l => decide); (case v => assumption); k_whole); (try dsimp only [Option.getD])))
local macro_rules | `(tactic| walk_at "truthy ref") => `(tactic| (k_here; k_dflt (refine' tup_truthy_K ?F ?m ?_; (case F => k_asm); (case m => assumption); k_whole); intro tk'))
local macro_rules | `(tactic| walk_at "subscriptTail") => `(tactic| (k_here; (with_reducible show wpAny _ _ (subscriptTail _ _ (Value.ref _) (Value.int 0 _)) _ _ _); k_dflt (refine' tup_i0_K ?F ?m ?_ ?s ?g; (case F => k_asm); (case m => assumption); (case s => with_unfolding_all rfl); (case g => (intro _; with_unfolding_all rfl)); k_whole)))
local macro_rules | `(tactic| walk_at "subscriptTail") => `(tactic| (k_here; (with_reducible show wpAny _ _ (subscriptTail _ _ (Value.ref _) (Value.int 1 _)) _ _ _); k_dflt (refine' tup_i1_K ?F ?m ?_ ?s ?g; (case F => k_asm); (case m => assumption); (case s => with_unfolding_all rfl); (case g => (intro _; with_unfolding_all rfl)); k_whole)))
local macro_rules | `(tactic| walk_at "execs cons") => `(tactic| (k_here; (with_reducible show wpAny _ _ (execs [Stmt.For _ _ _ _ _, Stmt.Return _ _] _) _ _ _); refine' Hold.get ?_))
set_option pp.deepTerms false in
set_option pp.maxSteps 3000 in
theorem search_ctr {T d q : Addr} {mx cs st : Int} {tm tc t1 t2 t3 t4 tn tv : Tok} {rz : Bool} {xs : List Value} {ps : List Pr} {tl : List (Addr × Obj)} {n v : Array UInt8} {R : Result → Shared → Prop}
    (B0 : Below callerA base [] h₀) (F : Fr h₀ L s.heap m) (X : (KK w.params).In h₀) (Y : MF w h₀) (Tp : Top qv (looseW qv qloose) mean mg mb h₀) (hf : env.frame = some L) (hke : env.scope.kind = .function)
    (N : News h₀ L s.heap ((T, instObj 219 d) :: (d, tabD w.params q mx cs tm tc t1 t2 t3 t4 rz) :: (q, dqO st xs) :: tl))
    (hps : Pairs tl xs ps) (hxs : xs.length ≤ 1000)
    (hn : (n.toList = [] ∨ n.toList = [97] ∨ n.toList = [98, 99]) ∨ n.toList = [100, 97, 116, 101] ∨ n.toList = [97, 103, 101])
    (hR : ∀ h' tk r ex, Fr h₀ L h' m → News h₀ L h' (ex ++ ((T, instObj 219 d) :: (d, tabD w.params q mx cs tm tc t1 t2 t3 t4 rz) :: (q, dqO st xs) :: tl)) → (∀ p ∈ ex, ∀ z ∈ ((T, instObj 219 d) :: (d, tabD w.params q mx cs tm tc t1 t2 t3 t4 rz) :: (q, dqO st xs) :: tl), z.1 < p.1) →
      FResN (ex ++ ((T, instObj 219 d) :: (d, tabD w.params q mx cs tm tc t1 t2 t3 t4 rz) :: (q, dqO st xs) :: tl)) n v (foundD (statP w.params ++ ps) (n, v)) r → R (.ok (.ret r)) { s with heap := h', toks := tk }) : codeAny (model pw w) (callerA.deeper env) (.call (.ref 192) ⟨[.ref T, .bytes n tn, .bytes v tv], []⟩) R s := by
  have law : PySem.Challenge.rw_ds0003_01 = PySem.Challenge.rw_ds0003_01 ∧ KK = KK := ⟨rfl, rfl⟩
  revert law
  k_fill
  intro law
  rw [found_split _ _ _ (statP_len w.params)] at hR
  walk_at "own:enter"
  have Y' := Y.keeps FG'.keep
  obtain ⟨⟨f, hF, f0, f1, f2, f3, f4⟩, ⟨t5, ht5⟩, ⟨t6, ht6⟩, ⟨g5, hg5, ⟨t7, h57⟩, h58⟩, ⟨g6, hg6, ⟨t8, h67⟩, h68⟩⟩ := Y'
  rcases hn with hn | hn | hn
  · have hfn : f n.toList = none := by
      rcases hn with h | h | h <;> rw [h] <;> assumption
    rw [none_of_N (stat_absent w.params (p := (n, v)) hn), stat_absent w.params (p := (n, v)) hn] at hR
    dsimp only [Option.map] at hR
    k_steps
    unfold Hold
    rename Fr g' L' _ _ => F5
    rename News g' L' _ _ => N5
    refine wpAny_mono (srch_loop (part := none) (pv := .none) B' (Fr.of_eq F5 (srchM_of rfl rfl rfl rfl rfl)) X' T' N5 hps hxs rfl ?_) (fun _ _ h => h) (fun _ _ h => h.elim)
    intro h8 tk8 r8 ex8 m8 F8 N8 l8 hr8
    dsimp only
    k_steps
    rename Fr h₀ L _ m => F9
    rename News h₀ L _ _ => N9
    exact hR _ _ r8 ex8 F9 N9 l8 hr8
  · have hfn : f n.toList = some (.ref 531) := by rw [hn]; exact f3
    rw [stat_dateW w.params (p := (n, v)) hn, stat_dateN w.params (p := (n, v)) hn] at hR
    by_cases hv : v.toList = []
    · have hgv : g5 v.toList = some (.int 33 t7) := by rw [hv]; exact h57
      rw [if_pos hv] at hR
      k_steps
      rename Fr h₀ L _ m => F9
      rename News h₀ L _ _ => N9
      rename T < _ ∧ _ => l9
      exact hR _ _ _ [_] F9 N9 (lt1 l9) ⟨_, _, _, _, rfl, ⟨_, rfl⟩, .head _⟩
    · have hgv := h58 _ hv
      rw [if_neg hv] at hR
      k_steps
      unfold Hold
      rename Fr g' L' _ _ => F5
      rename News g' L' _ _ => N5
      rename T < _ ∧ _ => l5
      have N5 := News.rot4 N5
      refine wpAny_mono (srch_loop (part := some (33, false)) B' (Fr.of_eq F5 (srchM_of rfl rfl rfl rfl rfl)) X' T' N5 (hps.mono fun p hp => List.mem_cons_of_mem _ hp) hxs ⟨rfl, _, _, _, rfl, .head _⟩ ?_) (fun _ _ h => h) (fun _ _ h => h.elim)
      intro h8 tk8 r8 ex8 m8 F8 N8 l8 hr8
      dsimp only
      k_steps
      rename Fr h₀ L _ m => F9
      rename News h₀ L _ _ => N9
      exact hR _ _ r8 (ex8 ++ [_]) F9 (News.sub' N9 app_mid) (lt_mid l8 l5) (FResN.mono app_mid' hr8)
  · have hfn : f n.toList = some (.ref 423) := by rw [hn]; exact f4
    rw [stat_ageW w.params (p := (n, v)) hn, stat_ageN w.params (p := (n, v)) hn] at hR
    by_cases hv : v.toList = []
    · have hgv : g6 v.toList = some (.int 21 t8) := by rw [hv]; exact h67
      rw [if_pos hv] at hR
      k_steps
      rename Fr h₀ L _ m => F9
      rename News h₀ L _ _ => N9
      rename T < _ ∧ _ => l9
      exact hR _ _ _ [_] F9 N9 (lt1 l9) ⟨_, _, _, _, rfl, ⟨_, rfl⟩, .head _⟩
    · have hgv := h68 _ hv
      rw [if_neg hv] at hR
      k_steps
      unfold Hold
      rename Fr g' L' _ _ => F5
      rename News g' L' _ _ => N5
      rename T < _ ∧ _ => l5
      have N5 := News.rot4 N5
      refine wpAny_mono (srch_loop (part := some (21, false)) B' (Fr.of_eq F5 (srchM_of rfl rfl rfl rfl rfl)) X' T' N5 (hps.mono fun p hp => List.mem_cons_of_mem _ hp) hxs ⟨rfl, _, _, _, rfl, .head _⟩ ?_) (fun _ _ h => h) (fun _ _ h => h.elim)
      intro h8 tk8 r8 ex8 m8 F8 N8 l8 hr8
      dsimp only
      k_steps
      rename Fr h₀ L _ m => F9
      rename News h₀ L _ _ => N9
      exact hR _ _ r8 (ex8 ++ [_]) F9 (News.sub' N9 app_mid) (lt_mid l8 l5) (FResN.mono app_mid' hr8)
end
end
end Mine
namespace Mine
section
open PySem PySem.W PySem.Calls PyProof.Rows
set_option maxRecDepth 100000
set_option maxHeartbeats 4000000
local macro_rules | `(tactic| walk_at "getMethod ref") => `(tactic| (k_here; (with_reducible show wpAny _ _ (getMethod (Value.ref _) (PySem.Str.ofString "clear") _) _ _ _); k_dflt (refine' dq_method_K ?N ?m slot_dq_clear type_dq_clear ?_; (case N => k_asm); (case m => k_mem); k_whole)))
local macro_rules | `(tactic| walk_at "getMethod ref") => `(tactic| (k_here; (with_reducible show wpAny _ _ (getMethod (Value.ref _) (PySem.Str.ofString "appendleft") _) _ _ _); k_dflt (refine' dq_method_K ?N ?m slot_dq_appendleft type_dq_appendleft ?_; (case N => k_asm); (case m => k_mem); k_whole)))
local macro_rules | `(tactic| walk_at "getMethod ref") => `(tactic| (k_here; (with_reducible show wpAny _ _ (getMethod (Value.ref _) (PySem.Str.ofString "pop") _) _ _ _); k_dflt (refine' dq_method_K ?N ?m slot_dq_pop type_dq_pop ?_; (case N => k_asm); (case m => k_mem); k_whole)))
local macro_rules | `(tactic| walk_at "call builtin:collections.deque.clear") => `(tactic| (k_here; k_dflt (refine' dq_clear_K ?k1 ?k2 ?k3 ?_; (case k1 => k_asm); (case k2 => k_asm); (case k3 => k_upd); k_whole); intro h' F' N'; (try k_sweep)))
local macro_rules | `(tactic| walk_at "call builtin:collections.deque.appendleft") => `(tactic| (k_here; k_dflt (refine' dq_appendleft_K ?k1 ?k2 ?k3 ?z ?_; (case k1 => k_asm); (case k2 => k_asm); (case k3 => k_upd); (case z => assumption); k_whole); intro h' F' N'; (try k_sweep)))
local macro_rules | `(tactic| walk_at "call builtin:collections.deque.pop") => `(tactic| (k_here; k_dflt (refine' dq_pop_K ?k1 ?k2 ?k3 ?z ?_; (case k1 => k_asm); (case k2 => k_asm); (case k3 => k_upd); (case z => assumption); k_whole); intro h' F' N'; (try k_sweep)))
local macro_rules | `(tactic| walk_at "call builtin:len") => `(tactic| (k_here; (with_reducible show wpAny _ _ (call (Value.builtin "len") [Value.bytes _ _]) _ _ _); (refine len_bytes (by omega) ?_)))
local macro_rules | `(tactic| k_clsL) => `(tactic| first | with_reducible assumption | (refine List.mem_cons_of_mem _ ?_; k_clsL))
local macro_rules | `(tactic| k_mem) => `(tactic| k_clsL)
set_option hygiene false in
local macro_rules | `(tactic| walk_at "own:enter") => `(tactic| (
  refine' code_def B0 F X N Tp rfl hf hke ?k6 ?k7 ?k8 ?k9 ?kB ?_ ?c2 ?c3 ?c4 ?c5
  (case k6 => k_is)
  (case k7 => k_is)
  (case k8 => k_room)
  (case k9 => exact BindsTo.of_eq rfl)
  (case c5 => decide)
  (case kB => exact locs rfl)
  (case c2 => exact rfl)
  (case c3 => exact rfl)
  (case c4 => exact rfl)
  intro g' L' h' FG' F' N' B' X' T'
  (try dsimp only)
  (try k_lift B')
  (try k_fold)))
local macro_rules | `(tactic| walk_at "binaryOp Mult bytes int") => `(tactic| (k_here; k_dflt (refine' bytes_mul_any (b := [118]) ?b ?lo ?hi ?ln ?_; (case b => simp); (case lo => omega); (case hi => omega); (case ln => decide); k_whole); intro t' k'; (try dsimp only)))
local macro_rules | `(tactic| walk_at "call type:collections.deque") => `(tactic| (k_here; k_dflt (refine' dq_new_K ?k1 ?k2 ?_; (case k1 => k_asm); (case k2 => k_asm); k_whole); intro q' h' F' N' l1; (try k_lt l1); (try k_sweep)))
local macro_rules | `(tactic| walk_at "binaryOp Add ref ref") => `(tactic| (k_here; k_dflt (refine' add_KK ?F ?N ?a ?b ?z ?_; (case F => k_asm); (case N => k_asm); (case a => k_mem); (case b => k_mem); (case z => (first | omega | (simp only [List.length_cons, List.length_nil]; omega))); k_whole); intro D' h' F' N' l1; (try k_lt l1)))
local macro_rules | `(tactic| walk_at "call builtin:len") => `(tactic| (k_here; (with_reducible show wpAny _ _ (call (Value.builtin "len") [Value.ref _]) _ _ _); k_dflt (refine' dq_len_K ?N ?a ?z ?_; (case N => k_asm); (case a => k_mem); (case z => omega); k_whole); intro t' tk'))
local macro_rules | `(tactic| walk_at "call builtin:len") => `(tactic| (k_here; (with_reducible show wpAny _ _ (call (Value.builtin "len") [Value.ref _]) _ _ _); k_dflt (refine' len_KK ?N ?a ?z ?_; (case N => k_asm); (case a => k_mem); (case z => (first | omega | (simp only [List.length_append]; omega))); k_whole); intro t' tk'; (try simp only [List.length_append, List.length_cons, statL_len])))
local macro_rules | `(tactic| walk_at "subscriptTail") => `(tactic| (k_here; (with_reducible show wpAny _ _ (subscriptTail _ _ (Value.ref _) (Value.int _ _)) _ _ _); k_dflt (refine' item_KK ?N ?a ?b ?c ?z ?_ ?s; (case N => k_asm); (case a => k_mem); (case b => omega); (case c => (first | omega | (simp only [List.length_append, statL_len]; omega))); (case z => (first | omega | (simp only [List.length_append, statL_len]; omega))); (case s => with_unfolding_all rfl); k_whole); intro v' hv'))
local macro_rules | `(tactic| walk_at "subscriptTail") => `(tactic| (k_here; (with_reducible show wpAny _ _ (subscriptTail _ _ (Value.ref _) (Value.int _ _)) _ _ _); k_dflt (refine' ditem_KK ?N ?a ?b ?c ?z ?_ ?s; (case N => k_asm); (case a => k_mem); (case b => omega); (case c => omega); (case z => omega); (case s => with_unfolding_all rfl); k_whole); intro v' tk' hv'))
local macro_rules | `(tactic| walk_at "subscriptTail") => `(tactic| (k_here; (with_reducible show wpAny _ _ (subscriptTail _ _ (Value.ref 157) (Value.int _ _)) _ _ _); k_dflt (refine' sitem_KK ?N ?a ?b ?c ?_ ?s; (case N => k_asm); (case a => k_asm); (case b => omega); (case c => omega); (case s => with_unfolding_all rfl); k_whole); intro v' hv'))
section
variable {w : World} {A A₀ : Around} {E : Value → Shared → Prop} {s : Shared} {h₀ base : Heap} {L : Addr} {m mg mb : Str → Option Value} {env env2 : Env} {outer : List Env} {mean : ExcName → Option Value}
local macro_rules | `(tactic| walk_at "call ref") => `(tactic| (k_here; (with_reducible show wpAny _ _ (call (Value.ref 792) _ _) _ _ _); k_dflt (refine' wpAny_call (Hold.get ?_); k_whole)))
local macro_rules | `(tactic| walk_at "call ref") => `(tactic| (k_here; (with_reducible show wpAny _ _ (call (Value.ref 192) _ _) _ _ _); k_dflt (refine' wpAny_call (Hold.get ?_); k_whole)))
local macro_rules | `(tactic| walk_at "call ref") => `(tactic| (k_here; (with_reducible show wpAny _ _ (call (Value.ref 797) _ _) _ _ _); k_dflt (refine' wpAny_call (Hold.get ?_); k_whole)))
theorem MethodStar_ {M : Model} {o e : PySem.Expr} {name : Str} {apos pos p : Pos} {Q : Value → Shared → Prop}
    (h : wpAny M A (eval o env) (fun ov s₁ => wpAny M A (getAttr ov name true) (fun f s₂ => wpAny M A (callWith pos f [] (backTo pos (starEach [.Starred e p] env)) []) Q E s₂) E s₁) E s)
    (he : eval (.Call (.Attribute o name apos) [.Starred e p] [] pos) env = (do
      let ov ← eval o env
      standAt apos.atName
      let (f, first) ← holding [ov] (do pure (← getAttr ov name true, ([] : List Value)))
      let callPos ← (pure pos : Sem Pos)
      callWith callPos f first (backTo pos (starEach [.Starred e p] env)) []) := by rfl) :
    wpAny M A (eval (.Call (.Attribute o name apos) [.Starred e p] [] pos) env) Q E s := by
  rw [he]
  exact wpAny_bind (wpAny_mono h (fun ov s₁ h₁ => wpAny_bind (wpAny_standAt (wpAny_bind (wpAny_holding (wpAny_bind (wpAny_mono h₁ (fun fx s₂ h₂ => wpAny_pure (wpAny_bind (wpAny_pure h₂))) fun _ _ x => x)))))) fun _ _ x => x)
theorem callWith_SM {M : Model} {K : Frag} {e : PySem.Expr} {pos p : Pos} {q f : Addr} {self : Value} {Q : Value → Shared → Prop} (hf : fnIn K f = true)
    (h : wpAny M A (eval e env) (fun v s₁ => StarOf M A E v (fun vs s₂ => MethP K q f self s₂.heap ∧ wpAny M A (call (.ref q) ([] ++ vs)) Q E s₂) s₁) E s)
    (he : starEach [.Starred e p] env = [(true, eval e env)] := by rfl) :
    wpAny M A (callWith pos (.ref q) [] (backTo pos (starEach [.Starred e p] env)) []) Q E s := by
  rw [he]
  exact ks_call rfl (keeps_M hf) (ks_lone h)
local macro_rules | `(tactic| walk_at "eval Call Attribute") => `(tactic| (k_here; (with_reducible show wpAny _ _ (eval (Expr.Call (Expr.Attribute _ _ _) [Expr.Starred _ _] [] _) _) _ _ _); refine' MethodStar_ ?_ ?he; (case he => with_unfolding_all rfl)))
local macro_rules | `(tactic| walk_at "callWith ref") => `(tactic| (k_here; (with_reducible show wpAny _ _ (callWith _ (Value.ref _) _ (backTo _ (starEach [Expr.Starred _ _] _)) []) _ _ _); refine' Hold.get ?_))
local macro_rules | `(tactic| walk_at "StarOf ref") => `(tactic| (refine' Hold.get ?_))
theorem mem_rot {e1 e2 tl : List (Addr × Obj)} {x a b c : Addr × Obj} : ∀ p ∈ a :: b :: c :: ((e1 ++ x :: e2) ++ tl), p ∈ e1 ++ x :: (e2 ++ (a :: b :: c :: tl)) := by
  intro p hp
  simp only [List.append_assoc, List.cons_append, List.mem_append, List.mem_cons] at hp ⊢
  rcases hp with h | h | h | h | h | h | h
  · exact .inr (.inr (.inr (.inl h)))
  · exact .inr (.inr (.inr (.inr (.inl h))))
  · exact .inr (.inr (.inr (.inr (.inr (.inl h)))))
  · exact .inl h
  · exact .inr (.inl h)
  · exact .inr (.inr (.inl h))
  · exact .inr (.inr (.inr (.inr (.inr (.inr h)))))
theorem lname_kind (k : Int) : ((lname k).toList = [] ∨ (lname k).toList = [97] ∨ (lname k).toList = [98, 99]) ∨ (lname k).toList = [100, 97, 116, 101] ∨ (lname k).toList = [97, 103, 101] := by
  unfold lname
  split
  · exact .inl (.inl rfl)
  · split
    · exact .inl (.inr (.inl rfl))
    · split
      · exact .inl (.inr (.inr rfl))
      · split
        · exact .inr (.inl rfl)
        · exact .inr (.inr rfl)
set_option pp.deepTerms false in
set_option pp.maxSteps 3000 in
theorem deed3_ctr {fa : Addr} {cd : Value} {Q : Flow → Shared → Prop} {T d q H Sd : Addr} {hxs xs : List Value} {c cS : Nat} {ps : List Pr} {k gr cs st : Int} {tk₀ tm tc t1 t2 t3 t4 tg : Tok} {rz : Bool} {tl : List (Addr × Obj)} {u : Str → Option Value}
    (B0 : Below callerA h₀ [] h₀) (F : Fr h₀ L s.heap (fun y => if y = Str.ofString "more" then some (.int k tk₀) else lawM T H gr tg (lawU Sd u) y)) (X : (KK w.params).In h₀) (Y : MF w h₀) (Tp : Top qv (looseW qv qloose) mean mg mb h₀)
    (N : News h₀ L s.heap ((T, instObj 219 d) :: (d, tabD w.params q gr cs tm tc t1 t2 t3 t4 rz) :: (q, dqO st xs) :: tl))
    (ho : OwnOff tl [T, d, q]) (h1 : @Ne Nat d T) (h2 : @Ne Nat T q) (h3 : @Ne Nat d q)
    (hH : (H, listOf hxs.toArray c) ∈ tl) (hS : (Sd, listOf statL.toArray cS) ∈ tl) (hp1 : Pairs tl hxs ps) (hp2 : Pairs tl xs ps) (hxs' : xs.length ≤ 1000)
    (hQ : ∀ h' tk u' ex, Fr h₀ L h' (lawM T H gr tg (lawU Sd u')) → News h₀ L h' ((T, instObj 219 d) :: (d, tabD w.params q gr cs tm tc t1 t2 t3 t4 rz) :: (q, dqO st xs) :: (ex ++ tl)) → OwnOff (ex ++ tl) [T, d, q] → Q .next { s with heap := h', toks := tk }) :
    wpAny (model pw w) (callerA.deeper (lawEnv L fa cd)) (execs (deedB 3) (lawEnv L fa cd)) Q (fun _ _ => False) s := by
  have law : PySem.Challenge.rw_ds0003_01 = PySem.Challenge.rw_ds0003_01 ∧ KK = KK := ⟨rfl, rfl⟩
  revert law
  k_fill
  intro law
  conv in (deedB 3) => whnf
  delta lawEnv at *
  unfold lawM lawU at F
  have hlen1 : hxs.length = ps.length := hp1.len
  have hlen2 : xs.length = ps.length := hp2.len
  k_steps
  unfold Hold
  rename News h₀ L _ _ => N4
  rename T < _ ∧ _ => l4
  refine callWith_SM (K := KK w.params) (f := 192) (self := .ref T) (by kernel_rfl) ?_ (by with_unfolding_all rfl)
  k_steps
  unfold Hold
  rename Fr h₀ L _ _ => F5
  refine pair_ctr B0 F5 X Tp rfl rfl N4 ?_
  intro h6 tk6 D6 tn tv F6 N6 l6
  dsimp only
  k_steps
  unfold Hold
  refine star_seq (ws := [.bytes (lname k) tn, .bytes (lval k) tv]) F6 N6 (.head _) rfl rfl (.inr rfl) rfl (by show 2 ≤ sizeLine; decide) ?_
  intro h7 F7 N7
  refine ⟨⟨(N7 _ (.tail _ (.head _))).1, X.keeps F7.keep⟩, ?_⟩
  refine call_meth N7 (.tail _ (.head _)) ?_
  have N8 : News h₀ L h7 ((T, instObj 219 d) :: (d, tabD w.params q gr cs tm tc t1 t2 t3 t4 rz) :: (q, dqO st xs) :: tl) := fun z hz => N7 z (.tail _ (.tail _ hz))
  clear N7 N6 N4 l6 l4
  refine search_ctr B0 F7 X Y Tp rfl rfl N8 hp2 hxs' (lname_kind k) ?_
  intro h9 tk9 r9 ex9 F9 N9 l9 hr9
  dsimp only
  k_steps
  unfold Hold
  rename Fr h₀ L _ _ => F10
  rename News h₀ L _ _ => N10
  refine pair_ctr B0 F10 X Tp rfl rfl N10 ?_
  intro h11 tk11 D11 tn11 tv11 F11 N11 l11
  dsimp only
  k_steps
  unfold Hold
  rename Fr h₀ L _ _ => F12
  rename News h₀ L _ _ => N12
  have up12 : ∀ p ∈ tl, p ∈ (D11, tupB (lname k) tn11 (lval k) tv11) :: (ex9 ++ ((T, instObj 219 d) :: (d, tabD w.params q gr cs tm tc t1 t2 t3 t4 rz) :: (q, dqO st xs) :: tl)) := fun p hp => .tail _ (List.mem_append_right _ (up3 p hp))
  refine found_ctr B0 F12 X Tp rfl rfl N12 (up12 _ hS) (up12 _ hH) (.head _) (hp1.mono up12) (by omega) ?_
  intro h13 tk13 r13 ex13 F13 N13 l13 hr13
  dsimp only
  k_steps
  rename Fr h₀ L _ _ => F14
  rename News h₀ L _ _ => N14
  refine ne_found (FResN.res N14 (FResN.mono (fun p hp => List.mem_append_right _ (.tail _ hp)) hr9)) hr13 (Nat.lt_of_le_of_lt (Nat.le_add_right _ 64) (by ke_room)) ?_
  (try dsimp only)
  k_steps
  rename Fr h₀ L _ _ => F15
  rename News h₀ L _ _ => N15
  have hgt : ∀ p ∈ ex13 ++ (D11, tupB (lname k) tn11 (lval k) tv11) :: ex9, ∀ z ∈ ((T, instObj 219 d) :: (d, tabD w.params q gr cs tm tc t1 t2 t3 t4 rz) :: (q, dqO st xs) :: tl), z.1 < p.1 := by
    intro p hp z hz
    rcases List.mem_append.mp hp with hp | hp
    · exact l13 p hp z (.tail _ (List.mem_append_right _ hz))
    · rcases List.mem_cons.mp hp with rfl | hp
      · exact l11 z (List.mem_append_right _ hz)
      · exact l9 p hp z hz
  refine hQ _ _ _ (ex13 ++ (D11, tupB (lname k) tn11 (lval k) tv11) :: ex9) (Fr.of_eq F15 (lawM_of rfl rfl rfl rfl)) (News.sub' N15 mem_rot) (own_app (fun p hp => ⟨?_, ?_, ?_⟩) ho)
  · exact Nat.ne_of_gt (hgt p hp _ (.head _))
  · exact Nat.ne_of_gt (hgt p hp _ (.tail _ (.head _)))
  · exact Nat.ne_of_gt (hgt p hp _ (.tail _ (.tail _ (.head _))))
end
end
end Mine
namespace Mine
section
open PySem PySem.W PySem.Calls PyProof.Rows
set_option maxRecDepth 100000
section
variable {prog : Program} {w : World} {A : Around} {s : Shared} {env : Env} {h₀ : Heap} {I l : Addr} {vs : List Value} {ns : List Int}
/-- the end of a turn of the loop over the script -/
def LStep (h₀ : Heap) (L I : Addr) (oI : Obj) (J : (Str → Option Value) → List (Addr × Obj) → Prop) (s : Shared) (R : Result → Shared → Prop) (f : Flow) (s₃ : Shared) : Prop :=
  match f with
  | .ret v => R (.ok (.ret v)) s₃
  | .brk => R (.ok .next) s₃
  | _ => ∃ h' tk' m' nw', s₃ = { s with heap := h', toks := tk' } ∧ Fr h₀ L h' m' ∧ News h₀ L h' ((I, oI) :: nw') ∧ (∀ p ∈ nw', p.1 ≠ I) ∧ J m' nw'
theorem loop_script {R : Result → Shared → Prop} {x : Str} {p1 : Pos} {body : List Stmt} {m : Str → Option Value} {nw : List (Addr × Obj)} (hh : A.handled = none)
    (hx : env.kindOf x = some .local)
    (hp : (env.scope.kind == .class || (env.scope.kind == .module && env.locals != env.globals)) = false)
    (hl : h₀.IsList l vs.toArray) (hi : IntsAre vs ns) (hit : s.heap.IsListIter I l 0) (hLI : env.locals ≠ I) (hI0 : h₀.get? I = none)
    (F : Fr h₀ env.locals s.heap m) (N : News h₀ env.locals s.heap nw) (hoff : ∀ p ∈ nw, p.1 ≠ I)
    (J : Nat → (Str → Option Value) → List (Addr × Obj) → Prop) (h0 : J 0 m nw)
    (turn : ∀ i n t m₁ nw₁ h tk oI, oI.cls = .type "list_iterator" → ns[i]? = some n → J i m₁ nw₁ → (∀ p ∈ nw₁, p.1 ≠ I) →
      Fr h₀ env.locals h (fun y => if y = x then some (.int n t) else m₁ y) → News h₀ env.locals h ((I, oI) :: nw₁) →
      wpAny (model prog w) A (execs body env) (LStep h₀ env.locals I oI (J (i + 1)) s R) (notedBy (model prog w) A env fun e s' => R (.error e) s') { s with heap := h, toks := tk })
    (done : ∀ h' tk m' nw', Fr h₀ env.locals h' m' → News h₀ env.locals h' nw' → J ns.length m' nw' → R (.ok .next) { s with heap := h', toks := tk }) :
    codeAny (model prog w) A (.forLoop (.Name x p1) (.ref I) body [] env) R s := by
  have hlen : vs.length = ns.length := hi.length
  have hne : l ≠ I := by
    rintro rfl
    obtain ⟨o, ho, _⟩ := hl
    rw [hI0] at ho; cases ho
  have hLl : env.locals ≠ l := by
    rintro e
    obtain ⟨o, ho, _⟩ := hl
    exact absurd (Nat.lt_of_lt_of_le (Heap.lt_size ho) F.above) (by rw [e]; exact Nat.lt_irrefl _)
  have W := Walks.list (prog := prog) (w := w) (A := A) hh I l hne vs.toArray
  have hsz : vs.toArray.size = vs.length := by simp
  have old : ∀ b o, h₀.get? b = some o → b ∉ [I] := fun b o hb hm => by rw [List.mem_singleton.mp hm, hI0] at hb; cases hb
  refine codeAny_forLoop_any
    (fun k s' => ∃ (h' : Heap) (tk : Nat) (m' : Str → Option Value) (nw' : List (Addr × Obj)) (i : Nat), s' = { s with heap := h', toks := tk } ∧ (h'.IsListIter I l i ∧ h'.IsList l vs.toArray) ∧ Fr h₀ env.locals h' m' ∧ News h₀ env.locals h' nw' ∧ (∀ p ∈ nw', p.1 ≠ I) ∧ J i m' nw' ∧ i ≤ vs.length ∧ k = vs.length + 1 - i) ?_ (vs.length + 1)
    ⟨s.heap, s.toks, m, nw, 0, rfl, ⟨hit, hl.at fun o x => F.keep l o x⟩, F, N, hoff, h0, Nat.zero_le _, rfl⟩
  rintro k s' ⟨H, tk, m', nw', i, rfl, hst, F', N', hoff', hj, hle, rfl⟩
  have next : ∀ h₁ : Heap, (∀ b o, b ∉ [I] → H.get? b = some o → h₁.get? b = some o) → Fr h₀ env.locals h₁ m' ∧ News h₀ env.locals h₁ nw' := fun h₁ hk₁ =>
    ⟨⟨F'.ns.at' fun o x => hk₁ _ o (by simpa using hLI) x, fun b o x => hk₁ b o (old b o x) (F'.keep b o x), F'.above⟩, fun p hp => ⟨hk₁ _ _ (by simpa using hoff' p hp) (N' p hp).1, (N' p hp).2⟩⟩
  by_cases hlt : i < vs.length
  · refine W.item i _ _ _ (by simpa using hlt) hst fun v h₁ tk₁ hv hst₁ hk₁ => ?_
    have hlt' : i < ns.length := by omega
    obtain ⟨t, hx'⟩ := hi.get i ns[i] (by simp [hlt'])
    have hv' : v = .int ns[i] t := by
      have hP' : vs[i]? = some v := by simpa using hv
      rw [hx'] at hP'; exact (Option.some.inj hP').symm
    subst hv'
    refine wpAny_of_eq (a := ()) rfl ?_
    obtain ⟨F₁, N₁⟩ := next h₁ hk₁
    refine wpAny_assign_Name (wpAny_storeName_local hx F₁.ns (fun h₂ hn₂ hs₂ => ?_) hp)
    replace hs₂ : Heap.SameBut env.locals h₁ h₂ := hs₂
    have F₂ := F₁.set hn₂ hs₂
    have N₂ : News h₀ env.locals h₂ nw' := N₁.set hs₂
    have hst₂ : h₂.IsListIter I l (i + 1) ∧ h₂.IsList l vs.toArray := W.frame _ _ _ hst₁ fun b hb o x => hs₂.extBut b o (fun q => by
      rcases List.mem_cons.mp hb with e | hb
      · exact hLI (q ▸ e)
      · exact hLl (q ▸ List.mem_singleton.mp hb)) x
    obtain ⟨oI, hoI, hcI, hdI⟩ := hst₂.1
    have N₃ : News h₀ env.locals h₂ ((I, oI) :: nw') := by
      intro z hz
      rcases List.mem_cons.mp hz with rfl | hz
      · exact ⟨hoI, Ne.symm hLI, hI0⟩
      · exact N₂ z hz
    refine wpAny_mono (turn i ns[i] t m' nw' h₂ _ oI hcI (by simp [hlt']) hj hoff' F₂ N₃) (fun f s₃ h₆ => ?_) fun _ _ x => x
    have go : (∃ h' tk' m'' nw'', s₃ = { s with heap := h', toks := tk' } ∧ Fr h₀ env.locals h' m'' ∧ News h₀ env.locals h' ((I, oI) :: nw'') ∧ (∀ p ∈ nw'', p.1 ≠ I) ∧ J (i + 1) m'' nw'') →
        ∃ m, m < vs.length + 1 - i ∧ ∃ (h' : Heap) (tk : Nat) (m' : Str → Option Value) (nw' : List (Addr × Obj)) (i : Nat), s₃ = { s with heap := h', toks := tk } ∧ (h'.IsListIter I l i ∧ h'.IsList l vs.toArray) ∧ Fr h₀ env.locals h' m' ∧ News h₀ env.locals h' nw' ∧ (∀ p ∈ nw', p.1 ≠ I) ∧ J i m' nw' ∧ i ≤ vs.length ∧ m = vs.length + 1 - i := by
      rintro ⟨h₉, tk₉, m₉, nw₉, rfl, F₉, N₉, hoff₉, hj₉⟩
      exact ⟨vs.length + 1 - (i + 1), by omega, h₉, tk₉, m₉, nw₉, i + 1, rfl, ⟨⟨oI, (N₉ _ (.head _)).1, hcI, hdI⟩, hl.at fun o x => F₉.keep l o x⟩, F₉, fun z hz => N₉ z (.tail _ hz), hoff₉, hj₉, hlt, rfl⟩
    cases f with
    | ret v => exact h₆
    | brk => exact h₆
    | cont => exact go h₆
    | next => exact go h₆
  · have hin : i = vs.length := by omega
    subst hin
    refine W.done _ _ _ (by simpa using hst) fun h₁ tk₁ hk₁ => wpAny_execs_nil ?_
    obtain ⟨F₁, N₁⟩ := next h₁ hk₁
    exact done h₁ tk₁ m' nw' F₁ N₁ (hlen ▸ hj)
end
end
end Mine
namespace Mine
section
open PySem PySem.W PySem.Calls PyProof.Rows
set_option maxRecDepth 100000
set_option maxHeartbeats 4000000
local macro_rules | `(tactic| walk_at "getMethod ref") => `(tactic| (k_here; (with_reducible show wpAny _ _ (getMethod (Value.ref _) (PySem.Str.ofString "clear") _) _ _ _); k_dflt (refine' dq_method_K ?N ?m slot_dq_clear type_dq_clear ?_; (case N => k_asm); (case m => k_mem); k_whole)))
local macro_rules | `(tactic| walk_at "getMethod ref") => `(tactic| (k_here; (with_reducible show wpAny _ _ (getMethod (Value.ref _) (PySem.Str.ofString "appendleft") _) _ _ _); k_dflt (refine' dq_method_K ?N ?m slot_dq_appendleft type_dq_appendleft ?_; (case N => k_asm); (case m => k_mem); k_whole)))
local macro_rules | `(tactic| walk_at "getMethod ref") => `(tactic| (k_here; (with_reducible show wpAny _ _ (getMethod (Value.ref _) (PySem.Str.ofString "pop") _) _ _ _); k_dflt (refine' dq_method_K ?N ?m slot_dq_pop type_dq_pop ?_; (case N => k_asm); (case m => k_mem); k_whole)))
local macro_rules | `(tactic| walk_at "call builtin:collections.deque.clear") => `(tactic| (k_here; k_dflt (refine' dq_clear_K ?k1 ?k2 ?k3 ?_; (case k1 => k_asm); (case k2 => k_asm); (case k3 => k_upd); k_whole); intro h' F' N'; (try k_sweep)))
local macro_rules | `(tactic| walk_at "call builtin:collections.deque.appendleft") => `(tactic| (k_here; k_dflt (refine' dq_appendleft_K ?k1 ?k2 ?k3 ?z ?_; (case k1 => k_asm); (case k2 => k_asm); (case k3 => k_upd); (case z => assumption); k_whole); intro h' F' N'; (try k_sweep)))
local macro_rules | `(tactic| walk_at "call builtin:collections.deque.pop") => `(tactic| (k_here; k_dflt (refine' dq_pop_K ?k1 ?k2 ?k3 ?z ?_; (case k1 => k_asm); (case k2 => k_asm); (case k3 => k_upd); (case z => assumption); k_whole); intro h' F' N'; (try k_sweep)))
local macro_rules | `(tactic| walk_at "call builtin:len") => `(tactic| (k_here; (with_reducible show wpAny _ _ (call (Value.builtin "len") [Value.bytes _ _]) _ _ _); (refine len_bytes (by omega) ?_)))
local macro_rules | `(tactic| k_clsL) => `(tactic| first | with_reducible assumption | (refine List.mem_cons_of_mem _ ?_; k_clsL))
local macro_rules | `(tactic| k_mem) => `(tactic| k_clsL)
set_option hygiene false in
local macro_rules | `(tactic| walk_at "own:enter") => `(tactic| (
  refine' code_def B0 F X N Tp rfl hf hke ?k6 ?k7 ?k8 ?k9 ?kB ?_ ?c2 ?c3 ?c4 ?c5
  (case k6 => k_is)
  (case k7 => k_is)
  (case k8 => k_room)
  (case k9 => exact BindsTo.of_eq rfl)
  (case c5 => decide)
  (case kB => exact locs rfl)
  (case c2 => exact rfl)
  (case c3 => exact rfl)
  (case c4 => exact rfl)
  intro g' L' h' FG' F' N' B' X' T'
  (try dsimp only)
  (try k_lift B')
  (try k_fold)))
local macro_rules | `(tactic| walk_at "binaryOp Mult bytes int") => `(tactic| (k_here; k_dflt (refine' bytes_mul_any (b := [118]) ?b ?lo ?hi ?ln ?_; (case b => simp); (case lo => omega); (case hi => omega); (case ln => decide); k_whole); intro t' k'; (try dsimp only)))
local macro_rules | `(tactic| walk_at "call type:collections.deque") => `(tactic| (k_here; k_dflt (refine' dq_new_K ?k1 ?k2 ?_; (case k1 => k_asm); (case k2 => k_asm); k_whole); intro q' h' F' N' l1; (try k_lt l1); (try k_sweep)))
section
variable {w : World} {A A₀ : Around} {E : Value → Shared → Prop} {s : Shared} {h₀ base : Heap} {L : Addr} {m mg mb : Str → Option Value} {env env2 : Env} {outer : List Env} {mean : ExcName → Option Value}
/-- what holds between the turns -/
def LawInv (P : Params) (T d q Sd : Addr) (t1 t2 t3 t4 : Tok) (m : Str → Option Value) (news : List (Addr × Obj)) : Prop :=
  ∃ (H : Addr) (hxs xs : List Value) (c cS : Nat) (ps : List Pr) (gr st : Int) (tg tm tc : Tok) (rz : Bool) (u : Str → Option Value) (tl : List (Addr × Obj)),
    m = lawM T H gr tg (lawU Sd u) ∧ news = (T, instObj 219 d) :: (d, tabD P q gr (tot ps) tm tc t1 t2 t3 t4 rz) :: (q, dqO st xs) :: tl ∧ OwnOff tl [T, d, q] ∧
    (H, listOf hxs.toArray c) ∈ tl ∧ (Sd, listOf statL.toArray cS) ∈ tl ∧ Pairs tl hxs ps ∧ Pairs tl xs ps ∧ 0 ≤ gr ∧ gr ≤ 4096 ∧ tot ps ≤ gr ∧ ∀ p ∈ ps, p.1.size ≤ 100 ∧ p.2.size ≤ 100
theorem len_tot : ∀ ps : List Pr, 32 * (ps.length : Int) ≤ tot ps
  | [] => by simp [tot]
  | p :: ps => by
    rw [tot_cons]
    have := len_tot ps
    have := psz_pos p
    simp only [List.length_cons]; omega
theorem Pairs.strip {a b c : Addr × Obj} {tl : List (Addr × Obj)} (ha : a.2.cls ≠ .type "tuple") (hb : b.2.cls ≠ .type "tuple") (hc : c.2.cls ≠ .type "tuple") : ∀ {xs : List Value} {ps : List Pr}, Pairs (a :: b :: c :: tl) xs ps → Pairs tl xs ps
  | [], [], _ => trivial
  | _ :: _, _ :: _, ⟨⟨D, t, t', e, h⟩, r⟩ => by
    refine ⟨⟨D, t, t', e, ?_⟩, Pairs.strip ha hb hc r⟩
    rcases List.mem_cons.mp h with h | h
    · exact absurd (congrArg (fun z => z.2.cls) h).symm ha
    · rcases List.mem_cons.mp h with h | h
      · exact absurd (congrArg (fun z => z.2.cls) h).symm hb
      · rcases List.mem_cons.mp h with h | h
        · exact absurd (congrArg (fun z => z.2.cls) h).symm hc
        · exact h
  | [], _ :: _, h => h.elim
  | _ :: _, [], h => h.elim
theorem mem_strip {a b c : Addr × Obj} {ex tl : List (Addr × Obj)} {D : Addr} {o : Obj} (ha : a.2.cls ≠ o.cls) (hb : b.2.cls ≠ o.cls) (hc : c.2.cls ≠ o.cls) (h : (D, o) ∈ ex ++ (a :: b :: c :: tl)) : (D, o) ∈ ex ++ tl := by
  rcases List.mem_append.mp h with h | h
  · exact List.mem_append_left _ h
  · refine List.mem_append_right _ ?_
    rcases List.mem_cons.mp h with h | h
    · exact absurd (congrArg (fun z => z.2.cls) h).symm ha
    · rcases List.mem_cons.mp h with h | h
      · exact absurd (congrArg (fun z => z.2.cls) h).symm hb
      · rcases List.mem_cons.mp h with h | h
        · exact absurd (congrArg (fun z => z.2.cls) h).symm hc
        · exact h
theorem mem_front {a b c : Addr × Obj} {ex tl : List (Addr × Obj)} : ∀ p ∈ a :: b :: c :: (ex ++ tl), p ∈ ex ++ (a :: b :: c :: tl) := by
  intro p hp
  simp only [List.mem_append, List.mem_cons] at hp ⊢
  rcases hp with h | h | h | h | h
  · exact .inr (.inl h)
  · exact .inr (.inr (.inl h))
  · exact .inr (.inr (.inr (.inl h)))
  · exact .inl h
  · exact .inr (.inr (.inr (.inr h)))
theorem tail_ctr {fa : Addr} {cd : Value} {Q : Flow → Shared → Prop} {T d q H Sd : Addr} {hxs xs : List Value} {c cS : Nat} {hs₀ : List Pr} {gr st : Int} {tm tc t1 t2 t3 t4 tg : Tok} {rz : Bool} {tl : List (Addr × Obj)} {u : Str → Option Value}
    (B0 : Below callerA h₀ [] h₀) (F : Fr h₀ L s.heap (lawM T H gr tg (lawU Sd u))) (X : (KK w.params).In h₀) (Tp : Top qv (looseW qv qloose) mean mg mb h₀)
    (N : News h₀ L s.heap ((T, instObj 219 d) :: (d, tabD w.params q gr (tot (fit gr hs₀)) tm tc t1 t2 t3 t4 rz) :: (q, dqO st xs) :: tl))
    (ho : OwnOff tl [T, d, q]) (h1 : @Ne Nat d T) (h2 : @Ne Nat T q) (h3 : @Ne Nat d q)
    (hH : (H, listOf hxs.toArray c) ∈ tl) (hS : (Sd, listOf statL.toArray cS) ∈ tl) (hp1 : Pairs tl hxs hs₀) (hp2 : Pairs tl xs (fit gr hs₀)) (hl : hxs.length ≤ 1000) (hgr : 0 ≤ gr) (hgr' : gr ≤ 4096) (hsz : ∀ p ∈ hs₀, p.1.size ≤ 100 ∧ p.2.size ≤ 100)
    (hQ : ∀ h' tk m' news', Fr h₀ L h' m' → News h₀ L h' news' → LawInv w.params T d q Sd t1 t2 t3 t4 m' news' → (∀ p ∈ tl, p ∈ news') → Q .next { s with heap := h', toks := tk }) :
    wpAny (model pw w) (callerA.deeper (lawEnv L fa cd)) (execs (turnB.drop 3) (lawEnv L fa cd)) Q (fun _ _ => False) s := by
  refine rest_ctr B0 F X Tp N (up3 _ hH) (hp1.mono up3) (by omega) hsz PassesOwn.never hgr ?_
  intro h' tk H' hx' c' ex F' N' hex hH' hp'
  have hxl : xs.length ≤ 100000 := by
    have e1 := hp2.len
    have e2 := fit_len gr hs₀
    have e3 := hp1.len
    omega
  have N2 := News.sub' N' mem_front
  have hp3 : Pairs tl hx' (fit gr hs₀) := Pairs.strip (by simp [instObj]) (by simp [dictOf]) (by simp [dqO]) hp'
  have hH2 : (H', listOf hx'.toArray c') ∈ ex ++ tl := mem_strip (by simp [instObj]) (by simp [dictOf]) (by simp [dqO]) hH'
  have ho2 : OwnOff (ex ++ tl) [T, d, q] := own_app (fun p hp => ⟨Nat.ne_of_gt (hex p hp _ (.head _)), Nat.ne_of_gt (hex p hp _ (.tail _ (.head _))), Nat.ne_of_gt (hex p hp _ (.tail _ (.tail _ (.head _))))⟩) ho
  have upx : ∀ p ∈ tl, p ∈ ex ++ tl := fun p hp => List.mem_append_right _ hp
  refine fin_ctr (s := { s with heap := h', toks := tk }) B0 F' X Tp N2 ho2 h1 h2 h3 hH2 (hp3.mono upx) (hp2.mono upx) hxl PassesOwn.never ?_
  intro h8 tk8 D8 c8 F8 N8
  refine hQ h8 tk8 _ ((T, instObj 219 d) :: (d, tabD w.params q gr (tot (fit gr hs₀)) tm tc t1 t2 t3 t4 rz) :: (q, dqO st xs) :: (ex ++ tl)) F8 (fun z hz => N8 z (.tail _ hz)) ?_ (fun p hp => up3 p (upx p hp))
  exact ⟨H', hx', xs, c', cS, fit gr hs₀, gr, st, tg, tm, tc, rz, u, ex ++ tl, rfl, rfl, ho2, hH2, upx _ hS, hp3.mono upx, hp2.mono upx, hgr, hgr', fit_le hgr _ hs₀ rfl, fun p hp => hsz p (fit_sub p hp)⟩
end
end
end Mine
namespace Mine
section
open PySem PySem.W PySem.Calls PyProof.Rows
set_option maxRecDepth 100000
set_option maxHeartbeats 4000000
local macro_rules | `(tactic| walk_at "getMethod ref") => `(tactic| (k_here; (with_reducible show wpAny _ _ (getMethod (Value.ref _) (PySem.Str.ofString "clear") _) _ _ _); k_dflt (refine' dq_method_K ?N ?m slot_dq_clear type_dq_clear ?_; (case N => k_asm); (case m => k_mem); k_whole)))
local macro_rules | `(tactic| walk_at "getMethod ref") => `(tactic| (k_here; (with_reducible show wpAny _ _ (getMethod (Value.ref _) (PySem.Str.ofString "appendleft") _) _ _ _); k_dflt (refine' dq_method_K ?N ?m slot_dq_appendleft type_dq_appendleft ?_; (case N => k_asm); (case m => k_mem); k_whole)))
local macro_rules | `(tactic| walk_at "getMethod ref") => `(tactic| (k_here; (with_reducible show wpAny _ _ (getMethod (Value.ref _) (PySem.Str.ofString "pop") _) _ _ _); k_dflt (refine' dq_method_K ?N ?m slot_dq_pop type_dq_pop ?_; (case N => k_asm); (case m => k_mem); k_whole)))
local macro_rules | `(tactic| walk_at "call builtin:collections.deque.clear") => `(tactic| (k_here; k_dflt (refine' dq_clear_K ?k1 ?k2 ?k3 ?_; (case k1 => k_asm); (case k2 => k_asm); (case k3 => k_upd); k_whole); intro h' F' N'; (try k_sweep)))
local macro_rules | `(tactic| walk_at "call builtin:collections.deque.appendleft") => `(tactic| (k_here; k_dflt (refine' dq_appendleft_K ?k1 ?k2 ?k3 ?z ?_; (case k1 => k_asm); (case k2 => k_asm); (case k3 => k_upd); (case z => assumption); k_whole); intro h' F' N'; (try k_sweep)))
local macro_rules | `(tactic| walk_at "call builtin:collections.deque.pop") => `(tactic| (k_here; k_dflt (refine' dq_pop_K ?k1 ?k2 ?k3 ?z ?_; (case k1 => k_asm); (case k2 => k_asm); (case k3 => k_upd); (case z => assumption); k_whole); intro h' F' N'; (try k_sweep)))
local macro_rules | `(tactic| walk_at "call builtin:len") => `(tactic| (k_here; (with_reducible show wpAny _ _ (call (Value.builtin "len") [Value.bytes _ _]) _ _ _); (refine len_bytes (by omega) ?_)))
local macro_rules | `(tactic| k_clsL) => `(tactic| first | with_reducible assumption | (refine List.mem_cons_of_mem _ ?_; k_clsL))
local macro_rules | `(tactic| k_mem) => `(tactic| k_clsL)
set_option hygiene false in
local macro_rules | `(tactic| walk_at "own:enter") => `(tactic| (
  refine' code_def B0 F X N Tp rfl hf hke ?k6 ?k7 ?k8 ?k9 ?kB ?_ ?c2 ?c3 ?c4 ?c5
  (case k6 => k_is)
  (case k7 => k_is)
  (case k8 => k_room)
  (case k9 => exact BindsTo.of_eq rfl)
  (case c5 => decide)
  (case kB => exact locs rfl)
  (case c2 => exact rfl)
  (case c3 => exact rfl)
  (case c4 => exact rfl)
  intro g' L' h' FG' F' N' B' X' T'
  (try dsimp only)
  (try k_lift B')
  (try k_fold)))
local macro_rules | `(tactic| walk_at "binaryOp Mult bytes int") => `(tactic| (k_here; k_dflt (refine' bytes_mul_any (b := [118]) ?b ?lo ?hi ?ln ?_; (case b => simp); (case lo => omega); (case hi => omega); (case ln => decide); k_whole); intro t' k'; (try dsimp only)))
local macro_rules | `(tactic| walk_at "call type:collections.deque") => `(tactic| (k_here; k_dflt (refine' dq_new_K ?k1 ?k2 ?_; (case k1 => k_asm); (case k2 => k_asm); k_whole); intro q' h' F' N' l1; (try k_lt l1); (try k_sweep)))
local macro_rules | `(tactic| walk_at "binaryOp Add ref ref") => `(tactic| (k_here; k_dflt (refine' add_KK ?F ?N ?a ?b ?z ?_; (case F => k_asm); (case N => k_asm); (case a => k_mem); (case b => k_mem); (case z => (first | omega | (simp only [List.length_cons, List.length_nil]; omega))); k_whole); intro D' h' F' N' l1; (try k_lt l1)))
local macro_rules | `(tactic| walk_at "call builtin:len") => `(tactic| (k_here; (with_reducible show wpAny _ _ (call (Value.builtin "len") [Value.ref _]) _ _ _); k_dflt (refine' dq_len_K ?N ?a ?z ?_; (case N => k_asm); (case a => k_mem); (case z => omega); k_whole); intro t' tk'))
local macro_rules | `(tactic| walk_at "call builtin:len") => `(tactic| (k_here; (with_reducible show wpAny _ _ (call (Value.builtin "len") [Value.ref _]) _ _ _); k_dflt (refine' len_KK ?N ?a ?z ?_; (case N => k_asm); (case a => k_mem); (case z => (first | omega | (simp only [List.length_append]; omega))); k_whole); intro t' tk'; (try simp only [List.length_append, List.length_cons, statL_len])))
local macro_rules | `(tactic| walk_at "subscriptTail") => `(tactic| (k_here; (with_reducible show wpAny _ _ (subscriptTail _ _ (Value.ref _) (Value.int _ _)) _ _ _); k_dflt (refine' item_KK ?N ?a ?b ?c ?z ?_ ?s; (case N => k_asm); (case a => k_mem); (case b => omega); (case c => (first | omega | (simp only [List.length_append, statL_len]; omega))); (case z => (first | omega | (simp only [List.length_append, statL_len]; omega))); (case s => with_unfolding_all rfl); k_whole); intro v' hv'))
local macro_rules | `(tactic| walk_at "subscriptTail") => `(tactic| (k_here; (with_reducible show wpAny _ _ (subscriptTail _ _ (Value.ref _) (Value.int _ _)) _ _ _); k_dflt (refine' ditem_KK ?N ?a ?b ?c ?z ?_ ?s; (case N => k_asm); (case a => k_mem); (case b => omega); (case c => omega); (case z => omega); (case s => with_unfolding_all rfl); k_whole); intro v' tk' hv'))
local macro_rules | `(tactic| walk_at "subscriptTail") => `(tactic| (k_here; (with_reducible show wpAny _ _ (subscriptTail _ _ (Value.ref 157) (Value.int _ _)) _ _ _); k_dflt (refine' sitem_KK ?N ?a ?b ?c ?_ ?s; (case N => k_asm); (case a => k_asm); (case b => omega); (case c => omega); (case s => with_unfolding_all rfl); k_whole); intro v' hv'))
section
variable {w : World} {A A₀ : Around} {E : Value → Shared → Prop} {s : Shared} {h₀ base : Heap} {L : Addr} {m mg mb : Str → Option Value} {env env2 : Env} {outer : List Env} {mean : ExcName → Option Value}
theorem moreM_of {T H Sd : Addr} {gr k : Int} {tg tk₀ : Tok} {m : Str → Option Value} (h0 : m (Str.ofString "more") = some (.int k tk₀)) (h1 : m (Str.ofString "held") = some (.ref H)) (h2 : m (Str.ofString "greatest") = some (.int gr tg)) (h3 : m (Str.ofString "table") = some (.ref T)) (h4 : m (Str.ofString "standing") = some (.ref Sd)) :
    m = fun y => if y = Str.ofString "more" then some (.int k tk₀) else lawM T H gr tg (lawU Sd m) y := by
  have e := lawM_of h1 h2 h3 h4
  funext y
  by_cases hy : y = Str.ofString "more"
  · subst hy; rw [if_pos rfl]; exact h0
  · rw [if_neg hy, ← e]
local macro_rules | `(tactic| walk_at "execs cons") => `(tactic| (k_here; (with_reducible show wpAny _ _ (execs (Stmt.Assign [Expr.Name (PySem.Str.ofString "pair") _] _ _ :: _) _) _ _ _); refine' Hold.get ?_))
local macro_rules | `(tactic| walk_at "execs cons") => `(tactic| (k_here; (with_reducible show wpAny _ _ (execs (Stmt.Assign [Expr.Name (PySem.Str.ofString "greatest") _] _ _ :: _) _) _ _ _); refine' Hold.get ?_))
local macro_rules | `(tactic| walk_at "execs cons") => `(tactic| (k_here; (with_reducible show wpAny _ _ (execs (Stmt.Assign [Expr.Name (PySem.Str.ofString "place") _] _ _ :: _) _) _ _ _); refine' Hold.get ?_))
local macro_rules | `(tactic| walk_at "execs cons") => `(tactic| (k_here; (with_reducible show wpAny _ _ (execs [Stmt.If (Expr.Compare (Expr.Call _ _ _ _) _ _ _) _ _ _] _) _ _ _); refine' Hold.get ?_))
local macro_rules | `(tactic| walk_at "execs cons") => `(tactic| (k_here; (with_reducible show wpAny _ _ (execs (Stmt.While _ _ _ _ :: _) _) _ _ _); refine' Hold.get ?_))
set_option pp.deepTerms false in
set_option pp.maxSteps 3000 in
theorem turn_ctr {fa : Addr} {cd : Value} {Q : Flow → Shared → Prop} {T d q Sd : Addr} {num : Int} {tnum t1 t2 t3 t4 : Tok} {m₁ : Str → Option Value} {nw₁ tlx : List (Addr × Obj)}
    (B0 : Below callerA h₀ [] h₀) (F : Fr h₀ L s.heap (fun y => if y = Str.ofString "number" then some (.int num tnum) else m₁ y)) (X : (KK w.params).In h₀) (Y : MF w h₀) (Tp : Top qv (looseW qv qloose) mean mg mb h₀)
    (N : News h₀ L s.heap nw₁) (hI : LawInv w.params T d q Sd t1 t2 t3 t4 m₁ nw₁) (h1 : @Ne Nat d T) (h2 : @Ne Nat T q) (h3 : @Ne Nat d q)
    (hx : ∀ p ∈ tlx, p ∈ nw₁ ∧ p.1 ≠ T ∧ p.1 ≠ d ∧ p.1 ≠ q)
    (hQ : ∀ h' tk m' news', Fr h₀ L h' m' → News h₀ L h' news' → LawInv w.params T d q Sd t1 t2 t3 t4 m' news' → (∀ p ∈ tlx, p ∈ news') → Q .next { s with heap := h', toks := tk }) :
    wpAny (model pw w) (callerA.deeper (lawEnv L fa cd)) (execs turnB (lawEnv L fa cd)) Q (fun _ _ => False) s := by
  have law : PySem.Challenge.rw_ds0003_01 = PySem.Challenge.rw_ds0003_01 ∧ KK = KK := ⟨rfl, rfl⟩
  revert law
  k_fill
  intro law
  obtain ⟨H, hxs, xs, c, cS, ps, gr, st, tg, tm, tc, rz, u, tl, rfl, rfl, ho, hH, hS, hp1, hp2, hgr, hgr', htot, hsz⟩ := hI
  have hxtl : ∀ p ∈ tlx, p ∈ tl := by
    intro p hp
    obtain ⟨a, b, c', e⟩ := hx p hp
    rcases List.mem_cons.mp a with h | a
    · exact absurd (congrArg Prod.fst h) b
    · rcases List.mem_cons.mp a with h | a
      · exact absurd (congrArg Prod.fst h) c'
      · rcases List.mem_cons.mp a with h | a
        · exact absurd (congrArg Prod.fst h) e
        · exact a
  have hlt := len_tot ps
  have hl1 := hp1.len
  have hl2 := hp2.len
  have hxs' : xs.length ≤ 1000 := by omega
  have hfit : fit gr ps = ps := fit_stop (by omega)
  conv in turnB => whnf
  delta lawEnv at *
  unfold lawM lawU at F
  k_steps
  · unfold Hold
    rename Fr h₀ L _ _ => F5
    rename News h₀ L _ _ => N5
    refine deed0_ctr B0 (Fr.of_eq F5 (moreM_of rfl rfl rfl rfl rfl)) X Tp N5 ho h1 h2 h3 hgr hsz hH hp1 hp2 hxs' ?_
    intro h' tk u' tc' st' xs6 H' hxs6 c' ex F6 N6 ho6 hH6 hp6 hp7
    have hl6 := hp6.len
    dsimp only
    k_steps
    unfold Hold
    refine tail_ctr B0 F6 X Tp N6 ho6 h1 h2 h3 hH6 (List.mem_append_right _ hS) hp6 hp7 (by simp only [List.length_cons] at hl6; omega) hgr hgr' ?_ ?_
    · intro p hp
      rcases List.mem_cons.mp hp with rfl | hp
      · have := lname_size (num.fdiv 4)
        have := lval_size (num.fdiv 4)
        dsimp only; omega
      · exact hsz p hp
    · intro h8 tk8 m8 n8 F8 N8 I8 s8
      exact hQ _ _ m8 n8 F8 N8 I8 (fun p hp => s8 p (List.mem_append_right _ (hxtl p hp)))
  · unfold Hold
    rename Fr h₀ L _ _ => F5
    rename News h₀ L _ _ => N5
    have hm := fmod_lt256 (num.fdiv 4)
    refine deed1_ctr B0 (Fr.of_eq F5 (moreM_of rfl rfl rfl rfl rfl)) X Tp N5 ho h1 h2 h3 hgr htot hsz hp2 hxs' ?_
    intro h' tk u' tg' tm' tc' rz' st' xs6 F6 N6 hp6
    dsimp only
    k_steps
    unfold Hold
    refine tail_ctr B0 F6 X Tp N6 ho h1 h2 h3 hH hS hp1 hp6 (by omega) hm.1 (by omega) hsz ?_
    intro h8 tk8 m8 n8 F8 N8 I8 s8
    exact hQ _ _ m8 n8 F8 N8 I8 (fun p hp => s8 p (hxtl p hp))
  · unfold Hold
    rename Fr h₀ L _ _ => F5
    rename News h₀ L _ _ => N5
    refine deed2_ctr B0 (Fr.of_eq F5 (moreM_of rfl rfl rfl rfl rfl)) X Tp N5 ho h1 h2 h3 hH hS hp1 hp2 hxs' ?_
    intro h' tk u' ex F6 N6 ho6
    dsimp only
    k_steps
    unfold Hold
    refine tail_ctr (hs₀ := ps) B0 F6 X Tp (by rw [hfit]; exact N6) ho6 h1 h2 h3 (List.mem_append_right _ hH) (List.mem_append_right _ hS) (hp1.mono fun p hp => List.mem_append_right _ hp) (by rw [hfit]; exact hp2.mono fun p hp => List.mem_append_right _ hp) (by omega) hgr hgr' hsz ?_
    intro h8 tk8 m8 n8 F8 N8 I8 s8
    exact hQ _ _ m8 n8 F8 N8 I8 (fun p hp => s8 p (List.mem_append_right _ (hxtl p hp)))
  · unfold Hold
    rename Fr h₀ L _ _ => F5
    rename News h₀ L _ _ => N5
    refine deed3_ctr B0 (Fr.of_eq F5 (moreM_of rfl rfl rfl rfl rfl)) X Y Tp N5 ho h1 h2 h3 hH hS hp1 hp2 hxs' ?_
    intro h' tk u' ex F6 N6 ho6
    dsimp only
    k_steps
    unfold Hold
    refine tail_ctr (hs₀ := ps) B0 F6 X Tp (by rw [hfit]; exact N6) ho6 h1 h2 h3 (List.mem_append_right _ hH) (List.mem_append_right _ hS) (hp1.mono fun p hp => List.mem_append_right _ hp) (by rw [hfit]; exact hp2.mono fun p hp => List.mem_append_right _ hp) (by omega) hgr hgr' hsz ?_
    intro h8 tk8 m8 n8 F8 N8 I8 s8
    exact hQ _ _ m8 n8 F8 N8 I8 (fun p hp => s8 p (List.mem_append_right _ (hxtl p hp)))
end
end
end Mine
namespace Mine
section
open PySem PySem.W PySem.Calls PyProof.Rows
set_option maxRecDepth 100000
set_option maxHeartbeats 4000000
local macro_rules | `(tactic| walk_at "own:pad0") => `(tactic| skip)
local macro_rules | `(tactic| walk_at "getMethod ref") => `(tactic| (k_here; (with_reducible show wpAny _ _ (getMethod (Value.ref _) (PySem.Str.ofString "clear") _) _ _ _); k_dflt (refine' dq_method_K ?N ?m slot_dq_clear type_dq_clear ?_; (case N => k_asm); (case m => k_mem); k_whole)))
local macro_rules | `(tactic| walk_at "getMethod ref") => `(tactic| (k_here; (with_reducible show wpAny _ _ (getMethod (Value.ref _) (PySem.Str.ofString "appendleft") _) _ _ _); k_dflt (refine' dq_method_K ?N ?m slot_dq_appendleft type_dq_appendleft ?_; (case N => k_asm); (case m => k_mem); k_whole)))
local macro_rules | `(tactic| walk_at "getMethod ref") => `(tactic| (k_here; (with_reducible show wpAny _ _ (getMethod (Value.ref _) (PySem.Str.ofString "pop") _) _ _ _); k_dflt (refine' dq_method_K ?N ?m slot_dq_pop type_dq_pop ?_; (case N => k_asm); (case m => k_mem); k_whole)))
local macro_rules | `(tactic| walk_at "call builtin:collections.deque.clear") => `(tactic| (k_here; k_dflt (refine' dq_clear_K ?k1 ?k2 ?k3 ?_; (case k1 => k_asm); (case k2 => k_asm); (case k3 => k_upd); k_whole); intro h' F' N'; (try k_sweep)))
local macro_rules | `(tactic| walk_at "call builtin:collections.deque.appendleft") => `(tactic| (k_here; k_dflt (refine' dq_appendleft_K ?k1 ?k2 ?k3 ?z ?_; (case k1 => k_asm); (case k2 => k_asm); (case k3 => k_upd); (case z => assumption); k_whole); intro h' F' N'; (try k_sweep)))
local macro_rules | `(tactic| walk_at "call builtin:collections.deque.pop") => `(tactic| (k_here; k_dflt (refine' dq_pop_K ?k1 ?k2 ?k3 ?z ?_; (case k1 => k_asm); (case k2 => k_asm); (case k3 => k_upd); (case z => assumption); k_whole); intro h' F' N'; (try k_sweep)))
local macro_rules | `(tactic| walk_at "call builtin:len") => `(tactic| (k_here; (with_reducible show wpAny _ _ (call (Value.builtin "len") [Value.bytes _ _]) _ _ _); (refine len_bytes (by omega) ?_)))
local macro_rules | `(tactic| k_clsL) => `(tactic| first | with_reducible assumption | (refine List.mem_cons_of_mem _ ?_; k_clsL))
local macro_rules | `(tactic| k_mem) => `(tactic| k_clsL)
set_option hygiene false in
local macro_rules | `(tactic| walk_at "own:enter") => `(tactic| (
  refine' code_def B0 F X N Tp rfl hf hke ?k6 ?k7 ?k8 ?k9 ?kB ?_ ?c2 ?c3 ?c4 ?c5
  (case k6 => k_is)
  (case k7 => k_is)
  (case k8 => k_room)
  (case k9 => exact BindsTo.of_eq rfl)
  (case c5 => decide)
  (case kB => exact locs rfl)
  (case c2 => exact rfl)
  (case c3 => exact rfl)
  (case c4 => exact rfl)
  intro g' L' h' FG' F' N' B' X' T'
  (try dsimp only)
  (try k_lift B')
  (try k_fold)))
local macro_rules | `(tactic| walk_at "binaryOp Mult bytes int") => `(tactic| (k_here; k_dflt (refine' bytes_mul_any (b := [118]) ?b ?lo ?hi ?ln ?_; (case b => simp); (case lo => omega); (case hi => omega); (case ln => decide); k_whole); intro t' k'; (try dsimp only)))
local macro_rules | `(tactic| walk_at "call type:collections.deque") => `(tactic| (k_here; k_dflt (refine' dq_new_K ?k1 ?k2 ?_; (case k1 => k_asm); (case k2 => k_asm); k_whole); intro q' h' F' N' l1; (try k_lt l1); (try k_sweep)))
local macro_rules | `(tactic| walk_at "binaryOp Add ref ref") => `(tactic| (k_here; k_dflt (refine' add_KK ?F ?N ?a ?b ?z ?_; (case F => k_asm); (case N => k_asm); (case a => k_mem); (case b => k_mem); (case z => (first | omega | (simp only [List.length_cons, List.length_nil]; omega))); k_whole); intro D' h' F' N' l1; (try k_lt l1)))
local macro_rules | `(tactic| walk_at "call builtin:len") => `(tactic| (k_here; (with_reducible show wpAny _ _ (call (Value.builtin "len") [Value.ref _]) _ _ _); k_dflt (refine' dq_len_K ?N ?a ?z ?_; (case N => k_asm); (case a => k_mem); (case z => omega); k_whole); intro t' tk'))
local macro_rules | `(tactic| walk_at "call builtin:len") => `(tactic| (k_here; (with_reducible show wpAny _ _ (call (Value.builtin "len") [Value.ref _]) _ _ _); k_dflt (refine' len_KK ?N ?a ?z ?_; (case N => k_asm); (case a => k_mem); (case z => (first | omega | (simp only [List.length_append]; omega))); k_whole); intro t' tk'; (try simp only [List.length_append, List.length_cons, statL_len])))
local macro_rules | `(tactic| walk_at "subscriptTail") => `(tactic| (k_here; (with_reducible show wpAny _ _ (subscriptTail _ _ (Value.ref _) (Value.int _ _)) _ _ _); k_dflt (refine' item_KK ?N ?a ?b ?c ?z ?_ ?s; (case N => k_asm); (case a => k_mem); (case b => omega); (case c => (first | omega | (simp only [List.length_append, statL_len]; omega))); (case z => (first | omega | (simp only [List.length_append, statL_len]; omega))); (case s => with_unfolding_all rfl); k_whole); intro v' hv'))
local macro_rules | `(tactic| walk_at "subscriptTail") => `(tactic| (k_here; (with_reducible show wpAny _ _ (subscriptTail _ _ (Value.ref _) (Value.int _ _)) _ _ _); k_dflt (refine' ditem_KK ?N ?a ?b ?c ?z ?_ ?s; (case N => k_asm); (case a => k_mem); (case b => omega); (case c => omega); (case z => omega); (case s => with_unfolding_all rfl); k_whole); intro v' tk' hv'))
local macro_rules | `(tactic| walk_at "subscriptTail") => `(tactic| (k_here; (with_reducible show wpAny _ _ (subscriptTail _ _ (Value.ref 157) (Value.int _ _)) _ _ _); k_dflt (refine' sitem_KK ?N ?a ?b ?c ?_ ?s; (case N => k_asm); (case a => k_asm); (case b => omega); (case c => omega); (case s => with_unfolding_all rfl); k_whole); intro v' hv'))
section
variable {w : World} {A A₀ : Around} {E : Value → Shared → Prop} {s : Shared} {h₀ base : Heap} {L : Addr} {m mg mb : Str → Option Value} {env env2 : Env} {outer : List Env} {mean : ExcName → Option Value}
theorem News.fn {h : Heap} {news : List (Addr × Obj)} (N : News h₀ L h news) {a : Addr} {o o' : Obj} (h1 : (a, o) ∈ news) (h2 : (a, o') ∈ news) : o = o' := by
  have e1 := (N _ h1).1
  have e2 := (N _ h2).1
  exact Option.some.inj (e1.symm.trans e2)
theorem Pairs.filt {f : Addr × Obj → Bool} {tl : List (Addr × Obj)} (hf : ∀ p ∈ tl, p.2.cls = .type "tuple" → f p = true) : ∀ {xs : List Value} {ps : List Pr}, Pairs tl xs ps → Pairs (tl.filter f) xs ps
  | [], [], _ => trivial
  | _ :: _, _ :: _, ⟨⟨D, t, t', e, h⟩, r⟩ => ⟨⟨D, t, t', e, List.mem_filter.mpr ⟨h, hf _ h rfl⟩⟩, Pairs.filt hf r⟩
  | [], _ :: _, h => h.elim
  | _ :: _, [], h => h.elim
theorem inv_filter {P : Params} {T d q Sd I : Addr} {t1 t2 t3 t4 : Tok} {oI : Obj} {news : List (Addr × Obj)} {h : Heap} (N : News h₀ L h news) (hI : (I, oI) ∈ news) (hc : oI.cls = .type "list_iterator") (x : LawInv P T d q Sd t1 t2 t3 t4 m news) :
    ∃ nw', (∀ p ∈ nw', p ∈ news ∧ p.1 ≠ I) ∧ LawInv P T d q Sd t1 t2 t3 t4 m nw' := by
  have key : ∀ p ∈ news, p.2.cls ≠ .type "list_iterator" → p.1 ≠ I := by
    rintro ⟨a, o⟩ hp hne rfl
    have e := News.fn N hp hI
    subst e
    exact hne hc
  obtain ⟨H, hxs, xs, c, cS, ps, gr, st, tg, tm, tc, rz, u, tl, rfl, rfl, ho, hH, hS, hp1, hp2, hgr, hgr', htot, hsz⟩ := x
  have hT := key _ (.head _) (by simp)
  have hd := key _ (.tail _ (.head _)) (by simp)
  have hq := key _ (.tail _ (.tail _ (.head _))) (by simp)
  have hf : ∀ p ∈ tl, p.2.cls ≠ .type "list_iterator" → decide (p.1 ≠ I) = true := fun p hp hne => decide_eq_true (key p (up3 p hp) hne)
  refine ⟨(T, instObj 219 d) :: (d, tabD P q gr (tot ps) tm tc t1 t2 t3 t4 rz) :: (q, dqO st xs) :: tl.filter (fun p => decide (p.1 ≠ I)), ?_, H, hxs, xs, c, cS, ps, gr, st, tg, tm, tc, rz, u, _, rfl, rfl, ?_, ?_, ?_, ?_, ?_, hgr, hgr', htot, hsz⟩
  · intro p hp
    rcases List.mem_cons.mp hp with rfl | hp
    · exact ⟨.head _, hT⟩
    · rcases List.mem_cons.mp hp with rfl | hp
      · exact ⟨.tail _ (.head _), hd⟩
      · rcases List.mem_cons.mp hp with rfl | hp
        · exact ⟨.tail _ (.tail _ (.head _)), hq⟩
        · obtain ⟨h1, h2⟩ := List.mem_filter.mp hp
          exact ⟨up3 p h1, of_decide_eq_true h2⟩
  · exact fun p hp => ho p (List.mem_filter.mp hp).1
  · exact List.mem_filter.mpr ⟨hH, hf _ hH (by simp)⟩
  · exact List.mem_filter.mpr ⟨hS, hf _ hS (by simp)⟩
  · exact hp1.filt fun p hp hcl => hf p hp (by rw [hcl]; simp)
  · exact hp2.filt fun p hp hcl => hf p hp (by rw [hcl]; simp)
theorem inv_with {P : Params} {T d q Sd I : Addr} {t1 t2 t3 t4 : Tok} {oI : Obj} {news : List (Addr × Obj)} (hoff : ∀ p ∈ news, p.1 ≠ I) (x : LawInv P T d q Sd t1 t2 t3 t4 m news) :
    ∃ nw', (∀ p ∈ nw', p ∈ (I, oI) :: news) ∧ ((I, oI) ∈ nw' ∧ I ≠ T ∧ I ≠ d ∧ I ≠ q) ∧ LawInv P T d q Sd t1 t2 t3 t4 m nw' := by
  obtain ⟨H, hxs, xs, c, cS, ps, gr, st, tg, tm, tc, rz, u, tl, rfl, rfl, ho, hH, hS, hp1, hp2, hgr, hgr', htot, hsz⟩ := x
  have hT := hoff _ (.head _)
  have hd := hoff _ (.tail _ (.head _))
  have hq := hoff _ (.tail _ (.tail _ (.head _)))
  have up : ∀ p ∈ tl, p ∈ (I, oI) :: tl := fun p hp => .tail _ hp
  refine ⟨(T, instObj 219 d) :: (d, tabD P q gr (tot ps) tm tc t1 t2 t3 t4 rz) :: (q, dqO st xs) :: (I, oI) :: tl, ?_, ⟨up3 _ (.head _), Ne.symm hT, Ne.symm hd, Ne.symm hq⟩, H, hxs, xs, c, cS, ps, gr, st, tg, tm, tc, rz, u, _, rfl, rfl, ?_, up _ hH, up _ hS, hp1.mono up, hp2.mono up, hgr, hgr', htot, hsz⟩
  · intro p hp
    simp only [List.mem_cons] at hp ⊢
    rcases hp with h | h | h | h | h
    · exact .inr (.inl h)
    · exact .inr (.inr (.inl h))
    · exact .inr (.inr (.inr (.inl h)))
    · exact .inl h
    · exact .inr (.inr (.inr (.inr h)))
  · intro p hp
    rcases List.mem_cons.mp hp with rfl | hp
    · intro b hb
      simp only [List.mem_cons, List.not_mem_nil, or_false] at hb
      rcases hb with rfl | rfl | rfl
      · exact Ne.symm hT
      · exact Ne.symm hd
      · exact Ne.symm hq
    · exact ho p hp
theorem scriptM_of {l : Addr} {m : Str → Option Value} (h : m (Str.ofString "script") = some (.ref l)) : m = fun y => if y = Str.ofString "script" then some (.ref l) else m y := by
  funext y
  by_cases hy : y = Str.ofString "script"
  · subst hy; rw [if_pos rfl]; exact h
  · rw [if_neg hy]
set_option pp.deepTerms false in
set_option pp.maxSteps 3000 in
theorem loop_ctr {fa l T d q Sd : Addr} {t1 t2 t3 t4 : Tok} {cd : Value} {vs : List Value} {ns : List Int} {news : List (Addr × Obj)} {Q : Flow → Shared → Prop}
    (B0 : Below callerA h₀ [] h₀) (F : Fr h₀ L s.heap m) (hm : m (Str.ofString "script") = some (.ref l)) (X : (KK w.params).In h₀) (Y : MF w h₀) (Tp : Top qv (looseW qv qloose) mean mg mb h₀)
    (N : News h₀ L s.heap news) (hI : LawInv w.params T d q Sd t1 t2 t3 t4 m news) (h1 : @Ne Nat d T) (h2 : @Ne Nat T q) (h3 : @Ne Nat d q) (hl : h₀.IsList l vs.toArray) (hi : IntsAre vs ns)
    (hQ : ∀ h' tk m', Fr h₀ L h' m' → Q (.ret (.bool true)) { s with heap := h', toks := tk }) :
    wpAny (model pw w) (callerA.deeper (lawEnv L fa cd)) (execs (lawB.drop 4) (lawEnv L fa cd)) Q (fun _ _ => False) s := by
  have law : PySem.Challenge.rw_ds0003_01 = PySem.Challenge.rw_ds0003_01 ∧ KK = KK := ⟨rfl, rfl⟩
  revert law
  k_fill
  intro law
  conv in (List.drop 4 lawB) => whnf
  have F1 := Fr.of_eq F (scriptM_of hm)
  iterate 1 (first | (k_unfold; (try dsimp only)) | walk1)
  refine wpAny_For ?_ (by intro _; with_unfolding_all rfl)
  refine wpAny_mono (Q := fun v s' => v = .ref l ∧ s = s') ?_ ?_ (fun _ _ h => h)
  · delta lawEnv at *
    k_steps
  rintro _ s' ⟨rfl, hs'⟩
  rw [← hs']
  clear hs'
  have hls : s.heap.IsList l vs.toArray := hl.at fun o e => F.keep l o e
  refine wpAny_pyIter_list hls ?_
  have up : ∀ b o, s.heap.get? b = some o → (s.heap.push { cls := .type "list_iterator", data := .fields #[.ref l, .int 0 0] }).get? b = some o := fun b o e => Heap.get?_push_of_some _ e
  refine loop_script (h₀ := h₀) (l := l) (vs := vs) (ns := ns) rfl rfl rfl hl hi ⟨_, Heap.get?_push_size _ rfl, rfl, rfl⟩ (Nat.ne_of_lt F.ns.lt) (next_is_new F) (F.keeps up) (fun z hz => ⟨up _ _ (N z hz).1, (N z hz).2⟩) (fun z hz => Nat.ne_of_lt (Heap.lt_size (N z hz).1)) (fun _ m' news' => LawInv w.params T d q Sd t1 t2 t3 t4 m' news') hI ?_ ?_
  · intro i num t m₁ nw₁ h tk oI hcI hni hj hoff F2 N2
    obtain ⟨nw2, hsub, ⟨hIn, hIT, hId, hIq⟩, hj2⟩ := inv_with (oI := oI) hoff hj
    refine wpAny_mono (turn_ctr (tlx := [(s.heap.objs.size, oI)]) B0 F2 X Y Tp (fun z hz => N2 z (hsub z hz)) hj2 h1 h2 h3 ?_ ?_) (fun _ _ h => h) (fun _ _ h => h.elim)
    · intro p hp
      rw [List.mem_singleton.mp hp]
      exact ⟨hIn, hIT, hId, hIq⟩
    · intro h' tk' m' news' F' N' I' hk'
      obtain ⟨nw', hn', hj'⟩ := inv_filter N' (hk' _ (.head _)) hcI I'
      refine ⟨h', tk', m', nw', rfl, F', ?_, fun p hp => (hn' p hp).2, hj'⟩
      intro z hz
      rcases List.mem_cons.mp hz with rfl | hz
      · exact N' _ (hk' _ (.head _))
      · exact N' z (hn' z hz).1
  · rintro h' tk m' nw' F' N' ⟨H, hxs, xs, c, cS, ps, gr, st, tg, tm, tc, rz, u, tl, rfl, rfl, ho, hH, hS, hp1, hp2, hgr, hgr', htot, hsz⟩
    unfold lawM lawU at F'
    have hlenS : statL.length = 61 := statL_len
    delta lawEnv at *
    dsimp only
    k_steps
    exact hQ _ _ _ F'
end
end
end Mine
namespace Mine
section
open PySem PySem.W PySem.Calls PyProof.Rows
set_option maxRecDepth 100000
set_option maxHeartbeats 4000000
local macro_rules | `(tactic| walk_at "own:pad0") => `(tactic| skip)
local macro_rules | `(tactic| walk_at "own:pad1") => `(tactic| skip)
local macro_rules | `(tactic| walk_at "own:pad2") => `(tactic| skip)
local macro_rules | `(tactic| walk_at "own:pad3") => `(tactic| skip)
local macro_rules | `(tactic| walk_at "own:pad4") => `(tactic| skip)
local macro_rules | `(tactic| walk_at "own:pad5") => `(tactic| skip)
local macro_rules | `(tactic| walk_at "getMethod ref") => `(tactic| (k_here; (with_reducible show wpAny _ _ (getMethod (Value.ref _) (PySem.Str.ofString "clear") _) _ _ _); k_dflt (refine' dq_method_K ?N ?m slot_dq_clear type_dq_clear ?_; (case N => k_asm); (case m => k_mem); k_whole)))
local macro_rules | `(tactic| walk_at "getMethod ref") => `(tactic| (k_here; (with_reducible show wpAny _ _ (getMethod (Value.ref _) (PySem.Str.ofString "appendleft") _) _ _ _); k_dflt (refine' dq_method_K ?N ?m slot_dq_appendleft type_dq_appendleft ?_; (case N => k_asm); (case m => k_mem); k_whole)))
local macro_rules | `(tactic| walk_at "getMethod ref") => `(tactic| (k_here; (with_reducible show wpAny _ _ (getMethod (Value.ref _) (PySem.Str.ofString "pop") _) _ _ _); k_dflt (refine' dq_method_K ?N ?m slot_dq_pop type_dq_pop ?_; (case N => k_asm); (case m => k_mem); k_whole)))
local macro_rules | `(tactic| walk_at "call builtin:collections.deque.clear") => `(tactic| (k_here; k_dflt (refine' dq_clear_K ?k1 ?k2 ?k3 ?_; (case k1 => k_asm); (case k2 => k_asm); (case k3 => k_upd); k_whole); intro h' F' N'; (try k_sweep)))
local macro_rules | `(tactic| walk_at "call builtin:collections.deque.appendleft") => `(tactic| (k_here; k_dflt (refine' dq_appendleft_K ?k1 ?k2 ?k3 ?z ?_; (case k1 => k_asm); (case k2 => k_asm); (case k3 => k_upd); (case z => assumption); k_whole); intro h' F' N'; (try k_sweep)))
local macro_rules | `(tactic| walk_at "call builtin:collections.deque.pop") => `(tactic| (k_here; k_dflt (refine' dq_pop_K ?k1 ?k2 ?k3 ?z ?_; (case k1 => k_asm); (case k2 => k_asm); (case k3 => k_upd); (case z => assumption); k_whole); intro h' F' N'; (try k_sweep)))
local macro_rules | `(tactic| walk_at "call builtin:len") => `(tactic| (k_here; (with_reducible show wpAny _ _ (call (Value.builtin "len") [Value.bytes _ _]) _ _ _); (refine len_bytes (by omega) ?_)))
local macro_rules | `(tactic| k_clsL) => `(tactic| first | with_reducible assumption | (refine List.mem_cons_of_mem _ ?_; k_clsL))
local macro_rules | `(tactic| k_mem) => `(tactic| k_clsL)
set_option hygiene false in
local macro_rules | `(tactic| walk_at "own:enter") => `(tactic| (
  refine' code_def B0 F X N Tp rfl hf hke ?k6 ?k7 ?k8 ?k9 ?kB ?_ ?c2 ?c3 ?c4 ?c5
  (case k6 => k_is)
  (case k7 => k_is)
  (case k8 => k_room)
  (case k9 => exact BindsTo.of_eq rfl)
  (case c5 => decide)
  (case kB => exact locs rfl)
  (case c2 => exact rfl)
  (case c3 => exact rfl)
  (case c4 => exact rfl)
  intro g' L' h' FG' F' N' B' X' T'
  (try dsimp only)
  (try k_lift B')
  (try k_fold)))
local macro_rules | `(tactic| walk_at "binaryOp Mult bytes int") => `(tactic| (k_here; k_dflt (refine' bytes_mul_any (b := [118]) ?b ?lo ?hi ?ln ?_; (case b => simp); (case lo => omega); (case hi => omega); (case ln => decide); k_whole); intro t' k'; (try dsimp only)))
local macro_rules | `(tactic| walk_at "call type:collections.deque") => `(tactic| (k_here; k_dflt (refine' dq_new_K ?k1 ?k2 ?_; (case k1 => k_asm); (case k2 => k_asm); k_whole); intro q' h' F' N' l1; (try k_lt l1); (try k_sweep)))
local macro_rules | `(tactic| walk_at "binaryOp Add ref ref") => `(tactic| (k_here; k_dflt (refine' add_KK ?F ?N ?a ?b ?z ?_; (case F => k_asm); (case N => k_asm); (case a => k_mem); (case b => k_mem); (case z => (first | omega | (simp only [List.length_cons, List.length_nil]; omega))); k_whole); intro D' h' F' N' l1; (try k_lt l1)))
local macro_rules | `(tactic| walk_at "call builtin:len") => `(tactic| (k_here; (with_reducible show wpAny _ _ (call (Value.builtin "len") [Value.ref _]) _ _ _); k_dflt (refine' dq_len_K ?N ?a ?z ?_; (case N => k_asm); (case a => k_mem); (case z => omega); k_whole); intro t' tk'))
local macro_rules | `(tactic| walk_at "call builtin:len") => `(tactic| (k_here; (with_reducible show wpAny _ _ (call (Value.builtin "len") [Value.ref _]) _ _ _); k_dflt (refine' len_KK ?N ?a ?z ?_; (case N => k_asm); (case a => k_mem); (case z => (first | omega | (simp only [List.length_append]; omega))); k_whole); intro t' tk'; (try simp only [List.length_append, List.length_cons, statL_len])))
local macro_rules | `(tactic| walk_at "subscriptTail") => `(tactic| (k_here; (with_reducible show wpAny _ _ (subscriptTail _ _ (Value.ref _) (Value.int _ _)) _ _ _); k_dflt (refine' item_KK ?N ?a ?b ?c ?z ?_ ?s; (case N => k_asm); (case a => k_mem); (case b => omega); (case c => (first | omega | (simp only [List.length_append, statL_len]; omega))); (case z => (first | omega | (simp only [List.length_append, statL_len]; omega))); (case s => with_unfolding_all rfl); k_whole); intro v' hv'))
local macro_rules | `(tactic| walk_at "subscriptTail") => `(tactic| (k_here; (with_reducible show wpAny _ _ (subscriptTail _ _ (Value.ref _) (Value.int _ _)) _ _ _); k_dflt (refine' ditem_KK ?N ?a ?b ?c ?z ?_ ?s; (case N => k_asm); (case a => k_mem); (case b => omega); (case c => omega); (case z => omega); (case s => with_unfolding_all rfl); k_whole); intro v' tk' hv'))
local macro_rules | `(tactic| walk_at "subscriptTail") => `(tactic| (k_here; (with_reducible show wpAny _ _ (subscriptTail _ _ (Value.ref 157) (Value.int _ _)) _ _ _); k_dflt (refine' sitem_KK ?N ?a ?b ?c ?_ ?s; (case N => k_asm); (case a => k_asm); (case b => omega); (case c => omega); (case s => with_unfolding_all rfl); k_whole); intro v' hv'))
section
variable {w : World} {A A₀ : Around} {E : Value → Shared → Prop} {s : Shared} {h₀ base : Heap} {L : Addr} {m mg mb : Str → Option Value} {env env2 : Env} {outer : List Env} {mean : ExcName → Option Value}
local macro_rules | `(tactic| walk_at "execs cons") => `(tactic| (k_here; (with_reducible show wpAny _ _ (execs (Stmt.For _ _ _ _ _ :: _) _) _ _ _); refine' Hold.get ?_))
theorem five_rot {a b c x y : Addr × Obj} : ∀ p ∈ [a, b, c, x, y], p ∈ [x, y, c, a, b] := by
  intro p hp
  simp only [List.mem_cons, List.not_mem_nil, or_false] at hp ⊢
  rcases hp with h | h | h | h | h
  · exact .inr (.inr (.inr (.inl h)))
  · exact .inr (.inr (.inr (.inr h)))
  · exact .inr (.inr (.inl h))
  · exact .inl h
  · exact .inr (.inl h)
theorem own_two {T d q D H : Addr} {o o' : Obj} (h1 : D < H ∧ q < H ∧ T < H ∧ d < H) (h2 : q < D ∧ T < D ∧ d < D) : OwnOff [(H, o), (D, o')] [T, d, q] := by
  intro p hp b hb
  simp only [List.mem_cons, List.not_mem_nil, or_false] at hp hb
  rcases hp with rfl | rfl
  · rcases hb with rfl | rfl | rfl
    · exact Nat.ne_of_gt h1.2.2.1
    · exact Nat.ne_of_gt h1.2.2.2
    · exact Nat.ne_of_gt h1.2.1
  · rcases hb with rfl | rfl | rfl
    · exact Nat.ne_of_gt h2.2.1
    · exact Nat.ne_of_gt h2.2.2
    · exact Nat.ne_of_gt h2.1
theorem stat_list_K {P : Params} {news : List (Addr × Obj)} {prog : Program} {Q : Value → Shared → Prop} (F : Fr h₀ L s.heap m) (N : News h₀ L s.heap news) (X : (KK P).In h₀)
    (h : ∀ D h' c', Fr h₀ L h' m → News h₀ L h' ((D, listOf statL.toArray c') :: news) → (∀ p ∈ news, p.1 < D) → Q (.ref D) { s with heap := h' }) :
    wpAny (model prog w) A (call (.type "list") [.ref 157]) Q E s := by
  have ht : IsT s.heap 157 statL.toArray 0 := F.keep _ _ (stat_tup X)
  exact call_list_seq (hsz := by show 61 ≤ sizeLine; decide) 157 (.inr rfl) ht rfl rfl fun h' c' hk hD => h _ h' c' (F.keeps hk) (news_pushed F N hk hD rfl) fun p hp => Heap.lt_size (N p hp).1
local macro_rules | `(tactic| walk_at "call type:list") => `(tactic| (k_here; (with_reducible show wpAny _ _ (call (Value.type "list") [Value.ref 157]) _ _ _); k_dflt (refine' stat_list_K ?k1 ?k2 ?k3 ?_; (case k1 => k_asm); (case k2 => k_asm); (case k3 => k_asm); k_whole); intro D' h' c' F' N' l1; (try k_lt l1)))
set_option pp.deepTerms false in
set_option pp.maxSteps 3000 in
theorem law_ctr {fa l : Addr} {cd : Value} {vs : List Value} {ns : List Int} {Q : Flow → Shared → Prop} 
    (B0 : Below callerA h₀ [] h₀) (F : Fr h₀ L s.heap (fun y => if y = Str.ofString "script" then some (.ref l) else none)) (X : (KK w.params).In h₀) (Y : MF w h₀) (Tp : Top qv (looseW qv qloose) mean mg mb h₀)
    (N : News h₀ L s.heap []) (hl : h₀.IsList l vs.toArray) (hi : IntsAre vs ns)
    (hQ : ∀ h' tk m', Fr h₀ L h' m' → Q (.ret (.bool true)) { s with heap := h', toks := tk }) :
    wpAny (model pw w) (callerA.deeper (lawEnv L fa cd)) (execs lawB (lawEnv L fa cd)) Q (fun _ _ => False) s := by
  have law : PySem.Challenge.rw_ds0003_01 = PySem.Challenge.rw_ds0003_01 ∧ KK = KK := ⟨rfl, rfl⟩
  revert law
  k_fill
  intro law
  conv in lawB => whnf
  delta lawEnv at *
  k_steps
  unfold Hold
  rename Fr h₀ L _ _ => F9
  rename News h₀ L _ _ => N9
  rename _ < _ ∧ _ < _ ∧ _ < _ ∧ _ < _ => l9
  rename _ < _ ∧ _ < _ ∧ _ < _ => l8
  have N10 := News.sub' N9 five_rot
  refine loop_ctr B0 F9 rfl X Y Tp N10 ⟨_, [], [], 0, _, [], 4096, 0, _, _, _, _, _, _, lawM_of rfl rfl rfl rfl, rfl, ?_, .head _, .tail _ (.head _), trivial, trivial, by decide, by decide, by decide, fun p hp => nomatch hp⟩ ?_ ?_ ?_ hl hi hQ
  · exact own_two l9 l8
  · rename _ < _ => l2
    exact Nat.ne_of_lt l2
  · rename _ < _ ∧ _ < _ => l3
    exact Nat.ne_of_lt l3.1
  · rename _ < _ ∧ _ < _ => l3
    exact Nat.ne_of_lt l3.2
end
end
end Mine
namespace Mine
section
open PySem PySem.W PySem.Calls PyProof.Rows
set_option maxRecDepth 100000
set_option maxHeartbeats 4000000
local macro_rules | `(tactic| walk_at "own:pad0") => `(tactic| skip)
local macro_rules | `(tactic| walk_at "getMethod ref") => `(tactic| (k_here; (with_reducible show wpAny _ _ (getMethod (Value.ref _) (PySem.Str.ofString "clear") _) _ _ _); k_dflt (refine' dq_method_K ?N ?m slot_dq_clear type_dq_clear ?_; (case N => k_asm); (case m => k_mem); k_whole)))
local macro_rules | `(tactic| walk_at "getMethod ref") => `(tactic| (k_here; (with_reducible show wpAny _ _ (getMethod (Value.ref _) (PySem.Str.ofString "appendleft") _) _ _ _); k_dflt (refine' dq_method_K ?N ?m slot_dq_appendleft type_dq_appendleft ?_; (case N => k_asm); (case m => k_mem); k_whole)))
local macro_rules | `(tactic| walk_at "getMethod ref") => `(tactic| (k_here; (with_reducible show wpAny _ _ (getMethod (Value.ref _) (PySem.Str.ofString "pop") _) _ _ _); k_dflt (refine' dq_method_K ?N ?m slot_dq_pop type_dq_pop ?_; (case N => k_asm); (case m => k_mem); k_whole)))
local macro_rules | `(tactic| walk_at "call builtin:collections.deque.clear") => `(tactic| (k_here; k_dflt (refine' dq_clear_K ?k1 ?k2 ?k3 ?_; (case k1 => k_asm); (case k2 => k_asm); (case k3 => k_upd); k_whole); intro h' F' N'; (try k_sweep)))
local macro_rules | `(tactic| walk_at "call builtin:collections.deque.appendleft") => `(tactic| (k_here; k_dflt (refine' dq_appendleft_K ?k1 ?k2 ?k3 ?z ?_; (case k1 => k_asm); (case k2 => k_asm); (case k3 => k_upd); (case z => assumption); k_whole); intro h' F' N'; (try k_sweep)))
local macro_rules | `(tactic| walk_at "call builtin:collections.deque.pop") => `(tactic| (k_here; k_dflt (refine' dq_pop_K ?k1 ?k2 ?k3 ?z ?_; (case k1 => k_asm); (case k2 => k_asm); (case k3 => k_upd); (case z => assumption); k_whole); intro h' F' N'; (try k_sweep)))
local macro_rules | `(tactic| walk_at "call builtin:len") => `(tactic| (k_here; (with_reducible show wpAny _ _ (call (Value.builtin "len") [Value.bytes _ _]) _ _ _); (refine len_bytes (by omega) ?_)))
local macro_rules | `(tactic| k_clsL) => `(tactic| first | with_reducible assumption | (refine List.mem_cons_of_mem _ ?_; k_clsL))
local macro_rules | `(tactic| k_mem) => `(tactic| k_clsL)
set_option hygiene false in
local macro_rules | `(tactic| walk_at "own:enter") => `(tactic| (
  refine' code_def B0 F X N Tp rfl hf hke ?k6 ?k7 ?k8 ?k9 ?kB ?_ ?c2 ?c3 ?c4 ?c5
  (case k6 => k_is)
  (case k7 => k_is)
  (case k8 => k_room)
  (case k9 => exact BindsTo.of_eq rfl)
  (case c5 => decide)
  (case kB => exact locs rfl)
  (case c2 => exact rfl)
  (case c3 => exact rfl)
  (case c4 => exact rfl)
  intro g' L' h' FG' F' N' B' X' T'
  (try dsimp only)
  (try k_lift B')
  (try k_fold)))
local macro_rules | `(tactic| walk_at "binaryOp Mult bytes int") => `(tactic| (k_here; k_dflt (refine' bytes_mul_any (b := [118]) ?b ?lo ?hi ?ln ?_; (case b => simp); (case lo => omega); (case hi => omega); (case ln => decide); k_whole); intro t' k'; (try dsimp only)))
local macro_rules | `(tactic| walk_at "call type:collections.deque") => `(tactic| (k_here; k_dflt (refine' dq_new_K ?k1 ?k2 ?_; (case k1 => k_asm); (case k2 => k_asm); k_whole); intro q' h' F' N' l1; (try k_lt l1); (try k_sweep)))
theorem one_look (k : Str) (v : Value) : (fun x => List.lookup x [(k, v)].reverse) = fun y => if y = k then some v else none := by
  funext y
  show List.lookup y [(k, v)] = _
  rw [List.lookup_cons]
  by_cases h : y = k
  · subst h; simp
  · have : (y == k) = false := by simpa using h
    rw [this, if_neg h]; rfl
theorem hw_ok : olr.promised := by
  delta olr ol
  k_fill
  w_witness2
theorem joint : PySem.Challenge.rw_ds0003_01.Holds := by
  have hw := hw_ok
  w_on
  o_law
  refine ⟨by assumption, hw, claim_of (fun w h => InK KK w h ∧ MF w h) (fun w X Y => ⟨inK_H1 X Y, mf_H1 X Y⟩) (fun w h h' x k => ⟨InK.keeps w h h' x.1 k, x.2.keeps k⟩) (by rfl) (by rfl) (by rfl) (by decide +kernel) ⟨rfl, rfl, rfl, rfl, rfl, by decide +kernel⟩ hw ?hc⟩
  delta olr ol
  k_fill
  intro w s₀ s₁ mg mb G Y fa o pm cd doc dV kV ho hd hcd hD hmg hg args vals as hpre hlay hrd hwl hlo
  have KX := (show (KK w.params).In s₁.heap from Y.1)
  k_behind G ho hd hcd hD hmg hpre hlay hrd hwl hlo cd
  rename Fr s₁.heap _ _ _ => F9
  rename News s₁.heap _ _ _ => N9
  rename Top qv _ _ _ _ _ => T9
  rename IntsAre _ _ => hI9
  rename Heap.IsList _ _ _ => hL9
  refine wpAny_mono (law_ctr (below_caller s₁.heap) (Fr.of_eq F9 (one_look _ _)) KX Y.2 T9 N9 hL9 hI9 ?hQ) (fun _ _ h => h) (fun _ _ h => h.elim)
  intro h' tk m' F'
  dsimp only
  k_steps
end
end Mine
set_option maxRecDepth 100000 in
theorem PySem.Challenge.cw_ds0003_01_holds : PySem.Challenge.rw_ds0003_01.Holds := by
  exact Mine.joint
