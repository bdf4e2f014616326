import PyProof.Rows.All
import Wide.All
import OpenK.AllK
import Wide.FinOn
import KE.KCallOwn
import KE.KAnyBase
import Lean
import PySem.Challenge.RW_wk0037_01

set_option Elab.async false
set_option linter.unusedVariables false
set_option linter.unusedSimpArgs false
set_option maxRecDepth 100000

/-! the head -/
section
open PySem PySem.W PySem.W.X PySem.W.ZRun PyProof.Rows PySem.Calls
namespace Mine
section
local macro_rules | `(tactic| o_head $_) => `(tactic| skip)
theorem frag (h : OpenRow.Holds PySem.Challenge.rw_wk0037_01.row) : OpenRow.Holds PySem.Challenge.rw_wk0037_01.row := by x_head; exact h
end
noncomputable def zfo (P : Params) (i : Nat) : Obj := (List.lookup i (frag.heap_1 P)).getD default
noncomputable def zx3_t0 (P : Params) : Obj := (@Obj.mk (@Value.type "dict") none (@Data.dict (@List.toArray _ [(@DictEntry.mk (@PyData.keyHash P (Str.ofString "__name__")) (@Value.str (Str.ofString "__name__") 165) (@Value.str (Str.ofString "__main__") 164)),(@DictEntry.mk (@PyData.keyHash P (Str.ofString "__doc__")) (@Value.str (Str.ofString "__doc__") 166) @Value.none),(@DictEntry.mk (@PyData.keyHash P (Str.ofString "__package__")) (@Value.str (Str.ofString "__package__") 167) @Value.none),(@DictEntry.mk (@PyData.keyHash P (Str.ofString "__loader__")) (@Value.str (Str.ofString "__loader__") 168) (@Value.builtin "__main__.__loader__#opaque")),(@DictEntry.mk (@PyData.keyHash P (Str.ofString "__spec__")) (@Value.str (Str.ofString "__spec__") 169) @Value.none),(@DictEntry.mk (@PyData.keyHash P (Str.ofString "__annotations__")) (@Value.str (Str.ofString "__annotations__") 170) (@Value.ref 6)),(@DictEntry.mk (@PyData.keyHash P (Str.ofString "__builtins__")) (@Value.str (Str.ofString "__builtins__") 171) (@Value.ref 4)),(@DictEntry.mk (@PyData.keyHash P (Str.ofString "__file__")) (@Value.str (Str.ofString "__file__") 173) (@Value.str (Str.ofString "/claim/cut.py") 172)),(@DictEntry.mk (@PyData.keyHash P (Str.ofString "__cached__")) (@Value.str (Str.ofString "__cached__") 174) @Value.none),(@DictEntry.mk (@PyData.keyHash P (Str.ofString "_sre")) (@Value.str (Str.ofString "_sre") 275) (@Value.ref 12))]) 10) #[])
noncomputable def zx16_t0 (P : Params) : Obj := (@Obj.mk (@Value.type "getset_descriptor") none (@Data.fields (@List.toArray _ [(@Value.str (Str.ofString "__dict__") 201),(@Value.ref 14),(@Value.builtin "function.__dict__"),(@Value.builtin "function.__dict__#set")])) #[])
noncomputable def zx17_t0 (P : Params) : Obj := (@Obj.mk (@Value.type "getset_descriptor") none (@Data.fields (@List.toArray _ [(@Value.str (Str.ofString "__weakref__") 203),(@Value.ref 14),(@Value.builtin "ExceptionGroup.__weakref__"),@Value.none])) #[])
noncomputable def zx18_t0 (P : Params) : Obj := (@Obj.mk @Value.none none (@Data.seq (@List.toArray _ [(@Value.int 13 0),(@Value.str (Str.ofString "\x06½\n__module__\x06º\x11_frozen_importlib\x06¾\x0f__firstlineno__\x04»\x00ϋ\x06¿\x07__doc__\t4_frozen_importlib.BuiltinImporter.__doc__:str#opaque\x06À\x07_ORIGIN\x06¼\x08built-in\x06Á\tfind_spec\t2_frozen_importlib.BuiltinImporter.find_spec#opaque\x06Â\x0dcreate_module\t6_frozen_importlib.BuiltinImporter.create_module#opaque\x06Ã\x0bexec_module\t4_frozen_importlib.BuiltinImporter.exec_module#opaque\x06Ä\x08get_code\t1_frozen_importlib.BuiltinImporter.get_code#opaque\x06Å\nget_source\t3_frozen_importlib.BuiltinImporter.get_source#opaque\x06Æ\nis_package\t3_frozen_importlib.BuiltinImporter.is_package#opaque\x06Ç\x0bload_module\t4_frozen_importlib.BuiltinImporter.load_module#opaque\x06È\x15__static_attributes__\x04\x00\x00\x0f\x06Ê\x08__dict__\x04\x00\x00\x10\x06Ì\x0b__weakref__\x04\x00\x00\x11") 0),(@Value.bool @Bool.true),(@Value.bool @Bool.true),(@Value.str (Str.ofString "") 205),(@Value.int 21 0),(@Value.str (Str.ofString "\x06ã\n__module__\x06Ù\x11_frozen_importlib\x06ä\x0f__firstlineno__\x04Ú\x00Ȳ\x06å\x07__doc__\t/_frozen_importlib.ModuleSpec.__doc__:str#opaque\x06æ\x08__init__\t,_frozen_importlib.ModuleSpec.__init__#opaque\x06ç\x08__repr__\t,_frozen_importlib.ModuleSpec.__repr__#opaque\x06è\x06__eq__\t*_frozen_importlib.ModuleSpec.__eq__#opaque\x06é\x06cached\t*_frozen_importlib.ModuleSpec.cached#opaque\x06ê\x06parent\t*_frozen_importlib.ModuleSpec.parent#opaque\x06ë\x0chas_location\t0_frozen_importlib.ModuleSpec.has_location#opaque\x06ì\x15__static_attributes__\x04\x00\x00\x17\x06î\x08__dict__\x04\x00\x00\x18\x06ð\x0b__weakref__\x04\x00\x00\x19\x06ñ\x08__hash__\x00") 0),(@Value.bool @Bool.true),(@Value.bool @Bool.true),(@Value.str (Str.ofString "") 242)]) 1) #[])
noncomputable def zx19_t0 (P : Params) : Obj := (@Obj.mk (@Value.type "list") none (@Data.seq (@List.toArray _ []) 0) #[])
noncomputable def zx20_t0 (P : Params) : Obj := (@Obj.mk (@Value.type "dict") none (@Data.dict (@List.toArray _ [(@DictEntry.mk (@PyData.keyHash P (Str.ofString "name")) (@Value.str (Str.ofString "name") 208) (@Value.str (Str.ofString "_sre") 207)),(@DictEntry.mk (@PyData.keyHash P (Str.ofString "loader")) (@Value.str (Str.ofString "loader") 209) (@Value.ref 14)),(@DictEntry.mk (@PyData.keyHash P (Str.ofString "origin")) (@Value.str (Str.ofString "origin") 210) (@Value.str (Str.ofString "built-in") 184)),(@DictEntry.mk (@PyData.keyHash P (Str.ofString "loader_state")) (@Value.str (Str.ofString "loader_state") 211) @Value.none),(@DictEntry.mk (@PyData.keyHash P (Str.ofString "submodule_search_locations")) (@Value.str (Str.ofString "submodule_search_locations") 212) @Value.none),(@DictEntry.mk (@PyData.keyHash P (Str.ofString "_uninitialized_submodules")) (@Value.str (Str.ofString "_uninitialized_submodules") 213) (@Value.ref 19)),(@DictEntry.mk (@PyData.keyHash P (Str.ofString "_set_fileattr")) (@Value.str (Str.ofString "_set_fileattr") 214) (@Value.bool @Bool.false)),(@DictEntry.mk (@PyData.keyHash P (Str.ofString "_cached")) (@Value.str (Str.ofString "_cached") 215) @Value.none),(@DictEntry.mk (@PyData.keyHash P (Str.ofString "_initializing")) (@Value.str (Str.ofString "_initializing") 243) (@Value.bool @Bool.false))]) 9) #[])
noncomputable def zx21_t0 (P : Params) : Obj := (@Obj.mk (@Value.type "dict") none (@Data.dict (@List.toArray _ [(@DictEntry.mk (@PyData.keyHash P (Str.ofString "__module__")) (@Value.str (Str.ofString "__module__") 227) (@Value.str (Str.ofString "_frozen_importlib") 217)),(@DictEntry.mk (@PyData.keyHash P (Str.ofString "__firstlineno__")) (@Value.str (Str.ofString "__firstlineno__") 228) (@Value.int 562 218)),(@DictEntry.mk (@PyData.keyHash P (Str.ofString "__doc__")) (@Value.str (Str.ofString "__doc__") 229) (@Value.builtin "_frozen_importlib.ModuleSpec.__doc__:str#opaque")),(@DictEntry.mk (@PyData.keyHash P (Str.ofString "__init__")) (@Value.str (Str.ofString "__init__") 230) (@Value.builtin "_frozen_importlib.ModuleSpec.__init__#opaque")),(@DictEntry.mk (@PyData.keyHash P (Str.ofString "__repr__")) (@Value.str (Str.ofString "__repr__") 231) (@Value.builtin "_frozen_importlib.ModuleSpec.__repr__#opaque")),(@DictEntry.mk (@PyData.keyHash P (Str.ofString "__eq__")) (@Value.str (Str.ofString "__eq__") 232) (@Value.builtin "_frozen_importlib.ModuleSpec.__eq__#opaque")),(@DictEntry.mk (@PyData.keyHash P (Str.ofString "cached")) (@Value.str (Str.ofString "cached") 233) (@Value.builtin "_frozen_importlib.ModuleSpec.cached#opaque")),(@DictEntry.mk (@PyData.keyHash P (Str.ofString "parent")) (@Value.str (Str.ofString "parent") 234) (@Value.builtin "_frozen_importlib.ModuleSpec.parent#opaque")),(@DictEntry.mk (@PyData.keyHash P (Str.ofString "has_location")) (@Value.str (Str.ofString "has_location") 235) (@Value.builtin "_frozen_importlib.ModuleSpec.has_location#opaque")),(@DictEntry.mk (@PyData.keyHash P (Str.ofString "__static_attributes__")) (@Value.str (Str.ofString "__static_attributes__") 236) (@Value.ref 23)),(@DictEntry.mk (@PyData.keyHash P (Str.ofString "__dict__")) (@Value.str (Str.ofString "__dict__") 238) (@Value.ref 24)),(@DictEntry.mk (@PyData.keyHash P (Str.ofString "__weakref__")) (@Value.str (Str.ofString "__weakref__") 240) (@Value.ref 25)),(@DictEntry.mk (@PyData.keyHash P (Str.ofString "__hash__")) (@Value.str (Str.ofString "__hash__") 241) @Value.none)]) 13) #[])
noncomputable def zx22_t0 (P : Params) : Obj := (@Obj.mk (@Value.type "type") none (@Data.cls (@ClassData.mk (Str.ofString "ModuleSpec") [(@Value.type "object")] [(@Value.ref 22),(@Value.type "object")] 21 (Str.ofString "ModuleSpec") @Bool.true [] [] @Bool.false (@Option.none @Bool) @Bool.false)) #[])
noncomputable def zx23_t0 (P : Params) : Obj := (@Obj.mk (@Value.type "tuple") none (@Data.seq (@List.toArray _ [(@Value.str (Str.ofString "_cached") 219),(@Value.str (Str.ofString "_set_fileattr") 220),(@Value.str (Str.ofString "_uninitialized_submodules") 221),(@Value.str (Str.ofString "loader") 222),(@Value.str (Str.ofString "loader_state") 223),(@Value.str (Str.ofString "name") 224),(@Value.str (Str.ofString "origin") 225),(@Value.str (Str.ofString "submodule_search_locations") 226)]) 0) #[])
noncomputable def zx24_t0 (P : Params) : Obj := (@Obj.mk (@Value.type "getset_descriptor") none (@Data.fields (@List.toArray _ [(@Value.str (Str.ofString "__dict__") 237),(@Value.ref 22),(@Value.builtin "function.__dict__"),(@Value.builtin "function.__dict__#set")])) #[])
noncomputable def zx25_t0 (P : Params) : Obj := (@Obj.mk (@Value.type "getset_descriptor") none (@Data.fields (@List.toArray _ [(@Value.str (Str.ofString "__weakref__") 239),(@Value.ref 22),(@Value.builtin "ExceptionGroup.__weakref__"),@Value.none])) #[])
noncomputable def zx26_t0 (P : Params) : Obj := (@Obj.mk (@Value.ref 22) (@Option.some @Nat 20) @Data.plain #[])
noncomputable def zx27_t0 (P : Params) : Obj := (@Obj.mk @Value.none none (@Data.seq (@List.toArray _ [(@Value.int 11 0),(@Value.str (@Str.mk (@List.toArray @Nat [6,247,8,95,95,110,97,109,101,95,95,6,246,4,95,115,114,101,6,248,7,95,95,100,111,99,95,95,0,6,250,11,95,95,112,97,99,107,97,103,101,95,95,6,249,0,6,251,10,95,95,108,111,97,100,101,114,95,95,4,0,0,14,6,252,8,95,95,115,112,101,99,95,95,4,0,0,26,6,253,7,99,111,109,112,105,108,101,9,12,95,115,114,101,46,99,111,109,112,105,108,101,6,254,8,116,101,109,112,108,97,116,101,9,13,95,115,114,101,46,116,101,109,112,108,97,116,101,6,255,11,103,101,116,99,111,100,101,115,105,122,101,9,16,95,115,114,101,46,103,101,116,99,111,100,101,115,105,122,101,6,256,13,97,115,99,105,105,95,105,115,99,97,115,101,100,9,18,95,115,114,101,46,97,115,99,105,105,95,105,115,99,97,115,101,100,6,257,15,117,110,105,99,111,100,101,95,105,115,99,97,115,101,100,9,20,95,115,114,101,46,117,110,105,99,111,100,101,95,105,115,99,97,115,101,100,6,258,13,97,115,99,105,105,95,116,111,108,111,119,101,114,9,18,95,115,114,101,46,97,115,99,105,105,95,116,111,108,111,119,101,114,6,259,15,117,110,105,99,111,100,101,95,116,111,108,111,119,101,114,9,20,95,115,114,101,46,117,110,105,99,111,100,101,95,116,111,108,111,119,101,114,6,261,5,77,65,71,73,67,4,260,0,20230612,6,263,8,67,79,68,69,83,73,90,69,4,262,0,4,6,265,9,77,65,88,82,69,80,69,65,84,4,264,0,4294967295,6,267,9,77,65,88,71,82,79,85,80,83,4,266,0,1073741823,6,269,9,99,111,112,121,114,105,103,104,116,6,268,53,32,83,82,69,32,50,46,50,46,50,32,67,111,112,121,114,105,103,104,116,32,40,99,41,32,49,57,57,55,45,50,48,48,50,32,98,121,32,83,101,99,114,101,116,32,76,97,98,115,32,65,66,32])) 0),(@Value.bool @Bool.true),(@Value.bool @Bool.false),(@Value.str (Str.ofString "_sre") 271)]) 0) #[])
noncomputable def zx28_ta (P : Params) : Obj := (@Obj.mk (@Value.type "tuple") none (@Data.seq (@List.toArray _ []) 0) #[])
noncomputable def zx29_ta (P : Params) : Obj := (@Obj.mk @Value.none none (@Data.fields (@List.toArray _ [])) #[])
noncomputable def zx30_ta (P : Params) : Obj := (@Obj.mk (@Value.type "code") none (@Data.fields (@List.toArray _ [(@Value.str (Str.ofString "<module>") 277),(@Value.str (Str.ofString "<module>") 278),(@Value.str (Str.ofString "/claim/cut.py") 279),(@Value.int 1 0),(@Value.int 0 0),(@Value.int 0 0),(@Value.int 0 0),(@Value.int 0 0),(@Value.ref 28),(@Value.bool @Bool.false),(@Value.int 276 0),(@Value.ref 29),@Value.none,@Value.none,@Value.none,@Value.none,(@Value.int 280 0),(@Value.int 1 0),(@Value.str (Str.ofString "/claim/cut.py") 281)])) #[])
noncomputable def zx31_ta (P : Params) : Obj := (@Obj.mk (@Value.type "frame") none @Data.plain (@List.toArray (@Option @Value) [(@Option.some @Value (@Value.ref 30)),(@Option.some @Value (@Value.ref 3)),(@Option.some @Value (@Value.ref 3)),(@Option.none @Value),(@Option.some @Value (@Value.str (Str.ofString "__main__") 164)),(@Option.none @Value),(@Option.some @Value (@Value.ref 0))]))
noncomputable def zx3_tb7 (P : Params) : Obj := (@Obj.mk (@Value.type "dict") none (@Data.dict (@List.toArray _ [(@DictEntry.mk (@PyData.keyHash P (Str.ofString "__name__")) (@Value.str (Str.ofString "__name__") 165) (@Value.str (Str.ofString "cpy313.email.header") 329)),(@DictEntry.mk (@PyData.keyHash P (Str.ofString "__doc__")) (@Value.str (Str.ofString "__doc__") 166) @Value.none),(@DictEntry.mk (@PyData.keyHash P (Str.ofString "__package__")) (@Value.str (Str.ofString "__package__") 167) @Value.none),(@DictEntry.mk (@PyData.keyHash P (Str.ofString "__loader__")) (@Value.str (Str.ofString "__loader__") 168) (@Value.builtin "__main__.__loader__#opaque")),(@DictEntry.mk (@PyData.keyHash P (Str.ofString "__spec__")) (@Value.str (Str.ofString "__spec__") 169) @Value.none),(@DictEntry.mk (@PyData.keyHash P (Str.ofString "__annotations__")) (@Value.str (Str.ofString "__annotations__") 170) (@Value.ref 6)),(@DictEntry.mk (@PyData.keyHash P (Str.ofString "__builtins__")) (@Value.str (Str.ofString "__builtins__") 171) (@Value.ref 4)),(@DictEntry.mk (@PyData.keyHash P (Str.ofString "__file__")) (@Value.str (Str.ofString "__file__") 173) (@Value.str (Str.ofString "/claim/cut.py") 172)),(@DictEntry.mk (@PyData.keyHash P (Str.ofString "__cached__")) (@Value.str (Str.ofString "__cached__") 174) @Value.none),(@DictEntry.mk (@PyData.keyHash P (Str.ofString "_sre")) (@Value.str (Str.ofString "_sre") 275) (@Value.ref 12)),(@DictEntry.mk (@PyData.keyHash P (Str.ofString "_wall")) (@Value.str (Str.ofString "_wall") 288) (@Value.ref 38)),(@DictEntry.mk (@PyData.keyHash P (Str.ofString "_Unknown")) (@Value.str (Str.ofString "_Unknown") 317) (@Value.ref 55)),(@DictEntry.mk (@PyData.keyHash P (Str.ofString "UNKNOWN")) (@Value.str (Str.ofString "UNKNOWN") 318) (@Value.ref 61)),(@DictEntry.mk (@PyData.keyHash P (Str.ofString "_get_name_info")) (@Value.str (Str.ofString "_get_name_info") 328) (@Value.ref 68)),(@DictEntry.mk (@PyData.keyHash P (Str.ofString "EMPTYSTRING")) (@Value.str (Str.ofString "EMPTYSTRING") 332) (@Value.str (Str.ofString "") 331)),(@DictEntry.mk (@PyData.keyHash P (Str.ofString "_Accumulator")) (@Value.str (Str.ofString "_Accumulator") 427) (@Value.ref 148))]) 16) #[])
noncomputable def zx29_tb7 (P : Params) : Obj := (@Obj.mk @Value.none none (@Data.fields (@List.toArray _ [(@Value.int 2 0),(@Value.int 0 0),(@Value.ref 37),(@Value.int 6 0),(@Value.int 0 0),(@Value.ref 44),(@Value.int 11 0),(@Value.int 0 0),(@Value.ref 67),(@Value.int 19 0),(@Value.int 0 0),(@Value.ref 75)])) #[])
noncomputable def zx39_tb7 (P : Params) : Obj := (@Obj.mk (@Value.type "tuple") none (@Data.seq (@List.toArray _ []) 0) #[])
noncomputable def zx40_tb7 (P : Params) : Obj := (@Obj.mk (@Value.type "builtin_function_or_method") none (@Data.fields (@List.toArray _ [(@Value.builtin "type.__prepare__"),(@Value.type "type")])) #[])
noncomputable def zx41_tb7 (P : Params) : Obj := (@Obj.mk (@Value.type "dict") none (@Data.dict (@List.toArray _ [(@DictEntry.mk (@PyData.keyHash P (Str.ofString "__module__")) (@Value.str (Str.ofString "__module__") 298) (@Value.str (Str.ofString "cpy313.dis") 289)),(@DictEntry.mk (@PyData.keyHash P (Str.ofString "__qualname__")) (@Value.str (Str.ofString "__qualname__") 300) (@Value.str (Str.ofString "_Unknown") 299)),(@DictEntry.mk (@PyData.keyHash P (Str.ofString "__firstlineno__")) (@Value.str (Str.ofString "__firstlineno__") 302) (@Value.int 6 301)),(@DictEntry.mk (@PyData.keyHash P (Str.ofString "__repr__")) (@Value.str (Str.ofString "__repr__") 309) (@Value.ref 52)),(@DictEntry.mk (@PyData.keyHash P (Str.ofString "__static_attributes__")) (@Value.str (Str.ofString "__static_attributes__") 310) (@Value.ref 53))]) 5) #[])
noncomputable def zx42_tb7 (P : Params) : Obj := (@Obj.mk (@Value.type "tuple") none (@Data.seq (@List.toArray _ []) 0) #[])
noncomputable def zx43_tb7 (P : Params) : Obj := (@Obj.mk @Value.none none (@Data.fields (@List.toArray _ [(@Value.int 8 0),(@Value.int 4 0),(@Value.ref 51)])) #[])
noncomputable def zx44_tb7 (P : Params) : Obj := (@Obj.mk (@Value.type "code") none (@Data.fields (@List.toArray _ [(@Value.str (Str.ofString "_Unknown") 293),(@Value.str (Str.ofString "_Unknown") 294),(@Value.str (Str.ofString "/claim/cut.py") 295),(@Value.int 6 0),(@Value.int 0 0),(@Value.int 0 0),(@Value.int 0 0),(@Value.int 0 0),(@Value.ref 42),(@Value.bool @Bool.false),(@Value.int 276 0),(@Value.ref 43),@Value.none,@Value.none,@Value.none,@Value.none,(@Value.int 296 0),(@Value.int 6 0),(@Value.str (Str.ofString "/claim/cut.py") 297)])) #[])
noncomputable def zx45_tb7 (P : Params) : Obj := (@Obj.mk (@Value.type "frame") none @Data.plain (@List.toArray (@Option @Value) [(@Option.some @Value (@Value.ref 44)),(@Option.some @Value (@Value.ref 3)),(@Option.some @Value (@Value.ref 41)),(@Option.none @Value),(@Option.some @Value (@Value.str (Str.ofString "cpy313.dis") 289)),(@Option.none @Value),(@Option.some @Value (@Value.ref 0))]))
noncomputable def zx58_tb7 (P : Params) : Obj := (@Obj.mk (@Value.type "super") none (@Data.fields (@List.toArray _ [(@Value.ref 55),(@Value.ref 55),(@Value.ref 55)])) #[])
noncomputable def zx59_tb7 (P : Params) : Obj := (@Obj.mk (@Value.type "builtin_function_or_method") none (@Data.fields (@List.toArray _ [(@Value.builtin "object.__init_subclass__"),(@Value.ref 55)])) #[])
noncomputable def zx70_tb7 (P : Params) : Obj := (@Obj.mk (@Value.type "builtin_function_or_method") none (@Data.fields (@List.toArray _ [(@Value.builtin "type.__prepare__"),(@Value.type "type")])) #[])
noncomputable def zx71_tb7 (P : Params) : Obj := (@Obj.mk (@Value.type "dict") none (@Data.dict (@List.toArray _ [(@DictEntry.mk (@PyData.keyHash P (Str.ofString "__module__")) (@Value.str (Str.ofString "__module__") 340) (@Value.str (Str.ofString "cpy313.email.header") 329)),(@DictEntry.mk (@PyData.keyHash P (Str.ofString "__qualname__")) (@Value.str (Str.ofString "__qualname__") 342) (@Value.str (Str.ofString "_Accumulator") 341)),(@DictEntry.mk (@PyData.keyHash P (Str.ofString "__firstlineno__")) (@Value.str (Str.ofString "__firstlineno__") 344) (@Value.int 19 343)),(@DictEntry.mk (@PyData.keyHash P (Str.ofString "__init__")) (@Value.str (Str.ofString "__init__") 354) (@Value.ref 85)),(@DictEntry.mk (@PyData.keyHash P (Str.ofString "push")) (@Value.str (Str.ofString "push") 363) (@Value.ref 92)),(@DictEntry.mk (@PyData.keyHash P (Str.ofString "pop_from")) (@Value.str (Str.ofString "pop_from") 372) (@Value.ref 100)),(@DictEntry.mk (@PyData.keyHash P (Str.ofString "pop")) (@Value.str (Str.ofString "pop") 380) (@Value.ref 108)),(@DictEntry.mk (@PyData.keyHash P (Str.ofString "__len__")) (@Value.str (Str.ofString "__len__") 387) (@Value.ref 115)),(@DictEntry.mk (@PyData.keyHash P (Str.ofString "__str__")) (@Value.str (Str.ofString "__str__") 394) (@Value.ref 122)),(@DictEntry.mk (@PyData.keyHash P (Str.ofString "reset")) (@Value.str (Str.ofString "reset") 402) (@Value.ref 130)),(@DictEntry.mk (@PyData.keyHash P (Str.ofString "is_onlyws")) (@Value.str (Str.ofString "is_onlyws") 409) (@Value.ref 137)),(@DictEntry.mk (@PyData.keyHash P (Str.ofString "part_count")) (@Value.str (Str.ofString "part_count") 417) (@Value.ref 145)),(@DictEntry.mk (@PyData.keyHash P (Str.ofString "__static_attributes__")) (@Value.str (Str.ofString "__static_attributes__") 419) (@Value.ref 146)),(@DictEntry.mk (@PyData.keyHash P (Str.ofString "__classcell__")) (@Value.str (Str.ofString "__classcell__") 420) (@Value.ref 72))]) 14) #[])
noncomputable def zx73_tb7 (P : Params) : Obj := (@Obj.mk (@Value.type "tuple") none (@Data.seq (@List.toArray _ []) 0) #[])
noncomputable def zx74_tb7 (P : Params) : Obj := (@Obj.mk @Value.none none (@Data.fields (@List.toArray _ [(@Value.int 21 0),(@Value.int 4 0),(@Value.ref 84),(@Value.int 25 0),(@Value.int 4 0),(@Value.ref 91),(@Value.int 28 0),(@Value.int 4 0),(@Value.ref 99),(@Value.int 31 0),(@Value.int 4 0),(@Value.ref 107),(@Value.int 36 0),(@Value.int 4 0),(@Value.ref 114),(@Value.int 39 0),(@Value.int 4 0),(@Value.ref 121),(@Value.int 42 0),(@Value.int 4 0),(@Value.ref 129),(@Value.int 45 0),(@Value.int 4 0),(@Value.ref 136),(@Value.int 48 0),(@Value.int 4 0),(@Value.ref 144)])) #[])
noncomputable def zx75_tb7 (P : Params) : Obj := (@Obj.mk (@Value.type "code") none (@Data.fields (@List.toArray _ [(@Value.str (Str.ofString "_Accumulator") 335),(@Value.str (Str.ofString "_Accumulator") 336),(@Value.str (Str.ofString "/claim/cut.py") 337),(@Value.int 19 0),(@Value.int 0 0),(@Value.int 0 0),(@Value.int 0 0),(@Value.int 0 0),(@Value.ref 73),(@Value.bool @Bool.false),(@Value.int 276 0),(@Value.ref 74),@Value.none,@Value.none,@Value.none,@Value.none,(@Value.int 338 0),(@Value.int 19 0),(@Value.str (Str.ofString "/claim/cut.py") 339)])) #[])
noncomputable def zx76_tb7 (P : Params) : Obj := (@Obj.mk (@Value.type "frame") none @Data.plain (@List.toArray (@Option @Value) [(@Option.some @Value (@Value.ref 75)),(@Option.some @Value (@Value.ref 3)),(@Option.some @Value (@Value.ref 71)),(@Option.none @Value),(@Option.some @Value (@Value.str (Str.ofString "cpy313.email.header") 329)),(@Option.none @Value),(@Option.some @Value (@Value.ref 0))]))
noncomputable def zx151_tb7 (P : Params) : Obj := (@Obj.mk (@Value.type "super") none (@Data.fields (@List.toArray _ [(@Value.ref 148),(@Value.ref 148),(@Value.ref 148)])) #[])
noncomputable def zx152_tb7 (P : Params) : Obj := (@Obj.mk (@Value.type "builtin_function_or_method") none (@Data.fields (@List.toArray _ [(@Value.builtin "object.__init_subclass__"),(@Value.ref 148)])) #[])
noncomputable def zx3_tb11 (P : Params) : Obj := (@Obj.mk (@Value.type "dict") none (@Data.dict (@List.toArray _ [(@DictEntry.mk (@PyData.keyHash P (Str.ofString "__name__")) (@Value.str (Str.ofString "__name__") 165) (@Value.str (Str.ofString "cpy313.wsgiref.headers") 428)),(@DictEntry.mk (@PyData.keyHash P (Str.ofString "__doc__")) (@Value.str (Str.ofString "__doc__") 166) @Value.none),(@DictEntry.mk (@PyData.keyHash P (Str.ofString "__package__")) (@Value.str (Str.ofString "__package__") 167) @Value.none),(@DictEntry.mk (@PyData.keyHash P (Str.ofString "__loader__")) (@Value.str (Str.ofString "__loader__") 168) (@Value.builtin "__main__.__loader__#opaque")),(@DictEntry.mk (@PyData.keyHash P (Str.ofString "__spec__")) (@Value.str (Str.ofString "__spec__") 169) @Value.none),(@DictEntry.mk (@PyData.keyHash P (Str.ofString "__annotations__")) (@Value.str (Str.ofString "__annotations__") 170) (@Value.ref 6)),(@DictEntry.mk (@PyData.keyHash P (Str.ofString "__builtins__")) (@Value.str (Str.ofString "__builtins__") 171) (@Value.ref 4)),(@DictEntry.mk (@PyData.keyHash P (Str.ofString "__file__")) (@Value.str (Str.ofString "__file__") 173) (@Value.str (Str.ofString "/claim/cut.py") 172)),(@DictEntry.mk (@PyData.keyHash P (Str.ofString "__cached__")) (@Value.str (Str.ofString "__cached__") 174) @Value.none),(@DictEntry.mk (@PyData.keyHash P (Str.ofString "_sre")) (@Value.str (Str.ofString "_sre") 275) (@Value.ref 12)),(@DictEntry.mk (@PyData.keyHash P (Str.ofString "_wall")) (@Value.str (Str.ofString "_wall") 288) (@Value.ref 38)),(@DictEntry.mk (@PyData.keyHash P (Str.ofString "_Unknown")) (@Value.str (Str.ofString "_Unknown") 317) (@Value.ref 55)),(@DictEntry.mk (@PyData.keyHash P (Str.ofString "UNKNOWN")) (@Value.str (Str.ofString "UNKNOWN") 318) (@Value.ref 61)),(@DictEntry.mk (@PyData.keyHash P (Str.ofString "_get_name_info")) (@Value.str (Str.ofString "_get_name_info") 328) (@Value.ref 68)),(@DictEntry.mk (@PyData.keyHash P (Str.ofString "EMPTYSTRING")) (@Value.str (Str.ofString "EMPTYSTRING") 332) (@Value.str (Str.ofString "") 331)),(@DictEntry.mk (@PyData.keyHash P (Str.ofString "_Accumulator")) (@Value.str (Str.ofString "_Accumulator") 427) (@Value.ref 148)),(@DictEntry.mk (@PyData.keyHash P (Str.ofString "_name_disallowed_re")) (@Value.str (Str.ofString "_name_disallowed_re") 455) (@Value.ref 157)),(@DictEntry.mk (@PyData.keyHash P (Str.ofString "_value_disallowed_re")) (@Value.str (Str.ofString "_value_disallowed_re") 489) (@Value.ref 162)),(@DictEntry.mk (@PyData.keyHash P (Str.ofString "Headers")) (@Value.str (Str.ofString "Headers") 645) (@Value.ref 285))]) 19) #[])
noncomputable def zx29_tb11 (P : Params) : Obj := (@Obj.mk @Value.none none (@Data.fields (@List.toArray _ [(@Value.int 2 0),(@Value.int 0 0),(@Value.ref 37),(@Value.int 6 0),(@Value.int 0 0),(@Value.ref 44),(@Value.int 11 0),(@Value.int 0 0),(@Value.ref 67),(@Value.int 19 0),(@Value.int 0 0),(@Value.ref 75),(@Value.int 53 0),(@Value.int 0 0),(@Value.ref 168)])) #[])
noncomputable def zx153_tb11 (P : Params) : Obj := (@Obj.mk (@Value.type "list") none (@Data.seq (@List.toArray _ [(@Value.int 14 433),(@Value.int 10 434),(@Value.int 4 435),(@Value.int 1 436),(@Value.int 1 437),(@Value.int 22 438),(@Value.int 0 439),(@Value.int 31 440),(@Value.int 16 441),(@Value.int 127 442),(@Value.int 0 443),(@Value.int 13 444),(@Value.int 7 445),(@Value.int 22 446),(@Value.int 0 447),(@Value.int 31 448),(@Value.int 16 449),(@Value.int 127 450),(@Value.int 0 451),(@Value.int 1 452)]) 0) #[])
noncomputable def zx154_tb11 (P : Params) : Obj := (@Obj.mk (@Value.type "dict") none (@Data.dict (@List.toArray _ []) 0) #[])
noncomputable def zx155_tb11 (P : Params) : Obj := (@Obj.mk (@Value.type "tuple") none (@Data.seq (@List.toArray _ [@Value.none]) 0) #[])
noncomputable def zx158_tb11 (P : Params) : Obj := (@Obj.mk (@Value.type "list") none (@Data.seq (@List.toArray _ [(@Value.int 14 459),(@Value.int 14 460),(@Value.int 4 461),(@Value.int 1 462),(@Value.int 1 463),(@Value.int 9 464),(@Value.int 4294966783 465),(@Value.int 0 466),(@Value.int 0 467),(@Value.int 2147483648 468),(@Value.int 0 469),(@Value.int 0 470),(@Value.int 0 471),(@Value.int 0 472),(@Value.int 0 473),(@Value.int 13 474),(@Value.int 11 475),(@Value.int 9 476),(@Value.int 4294966783 477),(@Value.int 0 478),(@Value.int 0 479),(@Value.int 2147483648 480),(@Value.int 0 481),(@Value.int 0 482),(@Value.int 0 483),(@Value.int 0 484),(@Value.int 0 485),(@Value.int 1 486)]) 0) #[])
noncomputable def zx159_tb11 (P : Params) : Obj := (@Obj.mk (@Value.type "dict") none (@Data.dict (@List.toArray _ []) 0) #[])
noncomputable def zx160_tb11 (P : Params) : Obj := (@Obj.mk (@Value.type "tuple") none (@Data.seq (@List.toArray _ [@Value.none]) 0) #[])
noncomputable def zx163_tb11 (P : Params) : Obj := (@Obj.mk (@Value.type "tuple") none (@Data.seq (@List.toArray _ []) 0) #[])
noncomputable def zx164_tb11 (P : Params) : Obj := (@Obj.mk (@Value.type "builtin_function_or_method") none (@Data.fields (@List.toArray _ [(@Value.builtin "type.__prepare__"),(@Value.type "type")])) #[])
noncomputable def zx165_tb11 (P : Params) : Obj := (@Obj.mk (@Value.type "dict") none (@Data.dict (@List.toArray _ [(@DictEntry.mk (@PyData.keyHash P (Str.ofString "__module__")) (@Value.str (Str.ofString "__module__") 497) (@Value.str (Str.ofString "cpy313.wsgiref.headers") 428)),(@DictEntry.mk (@PyData.keyHash P (Str.ofString "__qualname__")) (@Value.str (Str.ofString "__qualname__") 499) (@Value.str (Str.ofString "Headers") 498)),(@DictEntry.mk (@PyData.keyHash P (Str.ofString "__firstlineno__")) (@Value.str (Str.ofString "__firstlineno__") 501) (@Value.int 53 500)),(@DictEntry.mk (@PyData.keyHash P (Str.ofString "__init__")) (@Value.str (Str.ofString "__init__") 511) (@Value.ref 177)),(@DictEntry.mk (@PyData.keyHash P (Str.ofString "_convert_string_type")) (@Value.str (Str.ofString "_convert_string_type") 521) (@Value.ref 184)),(@DictEntry.mk (@PyData.keyHash P (Str.ofString "__len__")) (@Value.str (Str.ofString "__len__") 528) (@Value.ref 191)),(@DictEntry.mk (@PyData.keyHash P (Str.ofString "__setitem__")) (@Value.str (Str.ofString "__setitem__") 537) (@Value.ref 198)),(@DictEntry.mk (@PyData.keyHash P (Str.ofString "__delitem__")) (@Value.str (Str.ofString "__delitem__") 543) (@Value.ref 203)),(@DictEntry.mk (@PyData.keyHash P (Str.ofString "__getitem__")) (@Value.str (Str.ofString "__getitem__") 551) (@Value.ref 210)),(@DictEntry.mk (@PyData.keyHash P (Str.ofString "__contains__")) (@Value.str (Str.ofString "__contains__") 559) (@Value.ref 217)),(@DictEntry.mk (@PyData.keyHash P (Str.ofString "get_all")) (@Value.str (Str.ofString "get_all") 567) (@Value.ref 224)),(@DictEntry.mk (@PyData.keyHash P (Str.ofString "get")) (@Value.str (Str.ofString "get") 578) (@Value.ref 232)),(@DictEntry.mk (@PyData.keyHash P (Str.ofString "keys")) (@Value.str (Str.ofString "keys") 584) (@Value.ref 237)),(@DictEntry.mk (@PyData.keyHash P (Str.ofString "values")) (@Value.str (Str.ofString "values") 590) (@Value.ref 242)),(@DictEntry.mk (@PyData.keyHash P (Str.ofString "items")) (@Value.str (Str.ofString "items") 597) (@Value.ref 249)),(@DictEntry.mk (@PyData.keyHash P (Str.ofString "__repr__")) (@Value.str (Str.ofString "__repr__") 604) (@Value.ref 256)),(@DictEntry.mk (@PyData.keyHash P (Str.ofString "__str__")) (@Value.str (Str.ofString "__str__") 610) (@Value.ref 261)),(@DictEntry.mk (@PyData.keyHash P (Str.ofString "__bytes__")) (@Value.str (Str.ofString "__bytes__") 617) (@Value.ref 268)),(@DictEntry.mk (@PyData.keyHash P (Str.ofString "setdefault")) (@Value.str (Str.ofString "setdefault") 626) (@Value.ref 275)),(@DictEntry.mk (@PyData.keyHash P (Str.ofString "add_header")) (@Value.str (Str.ofString "add_header") 636) (@Value.ref 282)),(@DictEntry.mk (@PyData.keyHash P (Str.ofString "__static_attributes__")) (@Value.str (Str.ofString "__static_attributes__") 638) (@Value.ref 283))]) 21) #[])
noncomputable def zx166_tb11 (P : Params) : Obj := (@Obj.mk (@Value.type "tuple") none (@Data.seq (@List.toArray _ []) 0) #[])
noncomputable def zx167_tb11 (P : Params) : Obj := (@Obj.mk @Value.none none (@Data.fields (@List.toArray _ [(@Value.int 55 0),(@Value.int 4 0),(@Value.ref 176),(@Value.int 65 0),(@Value.int 4 0),(@Value.ref 183),(@Value.int 73 0),(@Value.int 4 0),(@Value.ref 190),(@Value.int 76 0),(@Value.int 4 0),(@Value.ref 197),(@Value.int 80 0),(@Value.int 4 0),(@Value.ref 202),(@Value.int 84 0),(@Value.int 4 0),(@Value.ref 209),(@Value.int 87 0),(@Value.int 4 0),(@Value.ref 216),(@Value.int 90 0),(@Value.int 4 0),(@Value.ref 223),(@Value.int 93 0),(@Value.int 4 0),(@Value.ref 231),(@Value.int 100 0),(@Value.int 4 0),(@Value.ref 236),(@Value.int 103 0),(@Value.int 4 0),(@Value.ref 241),(@Value.int 106 0),(@Value.int 4 0),(@Value.ref 248),(@Value.int 109 0),(@Value.int 4 0),(@Value.ref 255),(@Value.int 112 0),(@Value.int 4 0),(@Value.ref 260),(@Value.int 115 0),(@Value.int 4 0),(@Value.ref 267),(@Value.int 118 0),(@Value.int 4 0),(@Value.ref 274),(@Value.int 121 0),(@Value.int 4 0),(@Value.ref 281)])) #[])
noncomputable def zx168_tb11 (P : Params) : Obj := (@Obj.mk (@Value.type "code") none (@Data.fields (@List.toArray _ [(@Value.str (Str.ofString "Headers") 492),(@Value.str (Str.ofString "Headers") 493),(@Value.str (Str.ofString "/claim/cut.py") 494),(@Value.int 53 0),(@Value.int 0 0),(@Value.int 0 0),(@Value.int 0 0),(@Value.int 0 0),(@Value.ref 166),(@Value.bool @Bool.false),(@Value.int 276 0),(@Value.ref 167),@Value.none,@Value.none,@Value.none,@Value.none,(@Value.int 495 0),(@Value.int 53 0),(@Value.str (Str.ofString "/claim/cut.py") 496)])) #[])
noncomputable def zx169_tb11 (P : Params) : Obj := (@Obj.mk (@Value.type "frame") none @Data.plain (@List.toArray (@Option @Value) [(@Option.some @Value (@Value.ref 168)),(@Option.some @Value (@Value.ref 3)),(@Option.some @Value (@Value.ref 165)),(@Option.none @Value),(@Option.some @Value (@Value.str (Str.ofString "cpy313.wsgiref.headers") 428)),(@Option.none @Value),(@Option.some @Value (@Value.ref 0))]))
noncomputable def zx288_tb11 (P : Params) : Obj := (@Obj.mk (@Value.type "super") none (@Data.fields (@List.toArray _ [(@Value.ref 285),(@Value.ref 285),(@Value.ref 285)])) #[])
noncomputable def zx289_tb11 (P : Params) : Obj := (@Obj.mk (@Value.type "builtin_function_or_method") none (@Data.fields (@List.toArray _ [(@Value.builtin "object.__init_subclass__"),(@Value.ref 285)])) #[])
noncomputable def zx29_tz (P : Params) : Obj := (@Obj.mk @Value.none none (@Data.fields (@List.toArray _ [(@Value.int 2 0),(@Value.int 0 0),(@Value.ref 37),(@Value.int 6 0),(@Value.int 0 0),(@Value.ref 44),(@Value.int 11 0),(@Value.int 0 0),(@Value.ref 67),(@Value.int 19 0),(@Value.int 0 0),(@Value.ref 75),(@Value.int 53 0),(@Value.int 0 0),(@Value.ref 168),(@Value.int 124 0),(@Value.int 0 0),(@Value.ref 295),(@Value.int 133 0),(@Value.int 0 0),(@Value.ref 300),(@Value.int 137 0),(@Value.int 0 0),(@Value.ref 307),(@Value.int 152 0),(@Value.int 0 0),(@Value.ref 312),(@Value.int 155 0),(@Value.int 0 0),(@Value.ref 317),(@Value.int 165 0),(@Value.int 0 0),(@Value.ref 322)])) #[])
noncomputable def zt0 (P : Params) : BT := (.node (zfo P 0) (.node (zfo P 1) (.node (zx3_t0 P) (.node (zfo P 7) (.node (zfo P 15) .nil .nil) (.node (zx23_t0 P) .nil .nil)) (.node (zfo P 11) (.node (zx19_t0 P) .nil .nil) (.node (zx27_t0 P) .nil .nil))) (.node (zfo P 5) (.node (zfo P 9) (.node (zx17_t0 P) .nil .nil) (.node (zx25_t0 P) .nil .nil)) (.node (zfo P 13) (.node (zx21_t0 P) .nil .nil) .nil))) (.node (zfo P 2) (.node (zfo P 4) (.node (zfo P 8) (.node (zx16_t0 P) .nil .nil) (.node (zx24_t0 P) .nil .nil)) (.node (zfo P 12) (.node (zx20_t0 P) .nil .nil) .nil)) (.node (zfo P 6) (.node (zfo P 10) (.node (zx18_t0 P) .nil .nil) (.node (zx26_t0 P) .nil .nil)) (.node (zfo P 14) (.node (zx22_t0 P) .nil .nil) .nil))))
noncomputable def zta (P : Params) : BT := (.node (zfo P 0) (.node (zfo P 1) (.node (zx3_t0 P) (.node (zfo P 7) (.node (zfo P 15) (.node (zx31_ta P) .nil .nil) .nil) (.node (zx23_t0 P) .nil .nil)) (.node (zfo P 11) (.node (zx19_t0 P) .nil .nil) (.node (zx27_t0 P) .nil .nil))) (.node (zfo P 5) (.node (zfo P 9) (.node (zx17_t0 P) .nil .nil) (.node (zx25_t0 P) .nil .nil)) (.node (zfo P 13) (.node (zx21_t0 P) .nil .nil) (.node (zx29_ta P) .nil .nil)))) (.node (zfo P 2) (.node (zfo P 4) (.node (zfo P 8) (.node (zx16_t0 P) .nil .nil) (.node (zx24_t0 P) .nil .nil)) (.node (zfo P 12) (.node (zx20_t0 P) .nil .nil) (.node (zx28_ta P) .nil .nil))) (.node (zfo P 6) (.node (zfo P 10) (.node (zx18_t0 P) .nil .nil) (.node (zx26_t0 P) .nil .nil)) (.node (zfo P 14) (.node (zx22_t0 P) .nil .nil) (.node (zx30_ta P) .nil .nil)))))
noncomputable def ztb7 (P : Params) : BT := (.node (zfo P 0) (.node (zfo P 1) (.node (zx3_tb7 P) (.node (zfo P 7) (.node (zfo P 15) (.node (zx31_ta P) (.node (zfo P 63) (.node (zfo P 127) .nil .nil) .nil) (.node (zfo P 95) .nil .nil)) (.node (zfo P 47) (.node (zfo P 79) (.node (zfo P 143) .nil .nil) .nil) (.node (zfo P 111) .nil .nil))) (.node (zx23_t0 P) (.node (zx39_tb7 P) (.node (zx71_tb7 P) (.node (zfo P 135) .nil .nil) .nil) (.node (zfo P 103) .nil .nil)) (.node (zfo P 55) (.node (zfo P 87) (.node (zx151_tb7 P) .nil .nil) .nil) (.node (zfo P 119) .nil .nil)))) (.node (zfo P 11) (.node (zx19_t0 P) (.node (zfo P 35) (.node (zfo P 67) (.node (zfo P 131) .nil .nil) .nil) (.node (zfo P 99) .nil .nil)) (.node (zfo P 51) (.node (zfo P 83) (.node (zfo P 147) .nil .nil) .nil) (.node (zfo P 115) .nil .nil))) (.node (zx27_t0 P) (.node (zx43_tb7 P) (.node (zx75_tb7 P) (.node (zfo P 139) .nil .nil) .nil) (.node (zfo P 107) .nil .nil)) (.node (zx59_tb7 P) (.node (zfo P 91) .nil .nil) (.node (zfo P 123) .nil .nil))))) (.node (zfo P 5) (.node (zfo P 9) (.node (zx17_t0 P) (.node (zfo P 33) (.node (zfo P 65) (.node (zfo P 129) .nil .nil) .nil) (.node (zfo P 97) .nil .nil)) (.node (zfo P 49) (.node (zfo P 81) (.node (zfo P 145) .nil .nil) .nil) (.node (zfo P 113) .nil .nil))) (.node (zx25_t0 P) (.node (zx41_tb7 P) (.node (zx73_tb7 P) (.node (zfo P 137) .nil .nil) .nil) (.node (zfo P 105) .nil .nil)) (.node (zfo P 57) (.node (zfo P 89) .nil .nil) (.node (zfo P 121) .nil .nil)))) (.node (zfo P 13) (.node (zx21_t0 P) (.node (zfo P 37) (.node (zfo P 69) (.node (zfo P 133) .nil .nil) .nil) (.node (zfo P 101) .nil .nil)) (.node (zfo P 53) (.node (zfo P 85) (.node (zfo P 149) .nil .nil) .nil) (.node (zfo P 117) .nil .nil))) (.node (zx29_tb7 P) (.node (zx45_tb7 P) (.node (zfo P 77) (.node (zfo P 141) .nil .nil) .nil) (.node (zfo P 109) .nil .nil)) (.node (zfo P 61) (.node (zfo P 93) .nil .nil) (.node (zfo P 125) .nil .nil)))))) (.node (zfo P 2) (.node (zfo P 4) (.node (zfo P 8) (.node (zx16_t0 P) (.node (zfo P 32) (.node (zfo P 64) (.node (zfo P 128) .nil .nil) .nil) (.node (zfo P 96) .nil .nil)) (.node (zfo P 48) (.node (zfo P 80) (.node (zfo P 144) .nil .nil) .nil) (.node (zfo P 112) .nil .nil))) (.node (zx24_t0 P) (.node (zx40_tb7 P) (.node (zfo P 72) (.node (zfo P 136) .nil .nil) .nil) (.node (zfo P 104) .nil .nil)) (.node (zfo P 56) (.node (zfo P 88) (.node (zx152_tb7 P) .nil .nil) .nil) (.node (zfo P 120) .nil .nil)))) (.node (zfo P 12) (.node (zx20_t0 P) (.node (zfo P 36) (.node (zfo P 68) (.node (zfo P 132) .nil .nil) .nil) (.node (zfo P 100) .nil .nil)) (.node (zfo P 52) (.node (zfo P 84) (.node (zfo P 148) .nil .nil) .nil) (.node (zfo P 116) .nil .nil))) (.node (zx28_ta P) (.node (zx44_tb7 P) (.node (zx76_tb7 P) (.node (zfo P 140) .nil .nil) .nil) (.node (zfo P 108) .nil .nil)) (.node (zfo P 60) (.node (zfo P 92) .nil .nil) (.node (zfo P 124) .nil .nil))))) (.node (zfo P 6) (.node (zfo P 10) (.node (zx18_t0 P) (.node (zfo P 34) (.node (zfo P 66) (.node (zfo P 130) .nil .nil) .nil) (.node (zfo P 98) .nil .nil)) (.node (zfo P 50) (.node (zfo P 82) (.node (zfo P 146) .nil .nil) .nil) (.node (zfo P 114) .nil .nil))) (.node (zx26_t0 P) (.node (zx42_tb7 P) (.node (zx74_tb7 P) (.node (zfo P 138) .nil .nil) .nil) (.node (zfo P 106) .nil .nil)) (.node (zx58_tb7 P) (.node (zfo P 90) .nil .nil) (.node (zfo P 122) .nil .nil)))) (.node (zfo P 14) (.node (zx22_t0 P) (.node (zfo P 38) (.node (zx70_tb7 P) (.node (zfo P 134) .nil .nil) .nil) (.node (zfo P 102) .nil .nil)) (.node (zfo P 54) (.node (zfo P 86) (.node (zfo P 150) .nil .nil) .nil) (.node (zfo P 118) .nil .nil))) (.node (zx30_ta P) (.node (zfo P 46) (.node (zfo P 78) (.node (zfo P 142) .nil .nil) .nil) (.node (zfo P 110) .nil .nil)) (.node (zfo P 62) (.node (zfo P 94) .nil .nil) (.node (zfo P 126) .nil .nil)))))))
noncomputable def ztb11 (P : Params) : BT := (.node (zfo P 0) (.node (zfo P 1) (.node (zx3_tb11 P) (.node (zfo P 7) (.node (zfo P 15) (.node (zx31_ta P) (.node (zfo P 63) (.node (zfo P 127) (.node (zfo P 255) .nil .nil) .nil) (.node (zfo P 191) .nil .nil)) (.node (zfo P 95) (.node (zx159_tb11 P) (.node (zfo P 287) .nil .nil) .nil) (.node (zfo P 223) .nil .nil))) (.node (zfo P 47) (.node (zfo P 79) (.node (zfo P 143) (.node (zfo P 271) .nil .nil) .nil) (.node (zfo P 207) .nil .nil)) (.node (zfo P 111) (.node (zfo P 175) .nil .nil) (.node (zfo P 239) .nil .nil)))) (.node (zx23_t0 P) (.node (zx39_tb7 P) (.node (zx71_tb7 P) (.node (zfo P 135) (.node (zfo P 263) .nil .nil) .nil) (.node (zfo P 199) .nil .nil)) (.node (zfo P 103) (.node (zx167_tb11 P) .nil .nil) (.node (zfo P 231) .nil .nil))) (.node (zfo P 55) (.node (zfo P 87) (.node (zx151_tb7 P) (.node (zfo P 279) .nil .nil) .nil) (.node (zfo P 215) .nil .nil)) (.node (zfo P 119) (.node (zfo P 183) .nil .nil) (.node (zfo P 247) .nil .nil))))) (.node (zfo P 11) (.node (zx19_t0 P) (.node (zfo P 35) (.node (zfo P 67) (.node (zfo P 131) (.node (zfo P 259) .nil .nil) .nil) (.node (zfo P 195) .nil .nil)) (.node (zfo P 99) (.node (zx163_tb11 P) .nil .nil) (.node (zfo P 227) .nil .nil))) (.node (zfo P 51) (.node (zfo P 83) (.node (zfo P 147) (.node (zfo P 275) .nil .nil) .nil) (.node (zfo P 211) .nil .nil)) (.node (zfo P 115) (.node (zfo P 179) .nil .nil) (.node (zfo P 243) .nil .nil)))) (.node (zx27_t0 P) (.node (zx43_tb7 P) (.node (zx75_tb7 P) (.node (zfo P 139) (.node (zfo P 267) .nil .nil) .nil) (.node (zfo P 203) .nil .nil)) (.node (zfo P 107) (.node (zfo P 171) .nil .nil) (.node (zfo P 235) .nil .nil))) (.node (zx59_tb7 P) (.node (zfo P 91) (.node (zx155_tb11 P) (.node (zfo P 283) .nil .nil) .nil) (.node (zfo P 219) .nil .nil)) (.node (zfo P 123) (.node (zfo P 187) .nil .nil) (.node (zfo P 251) .nil .nil)))))) (.node (zfo P 5) (.node (zfo P 9) (.node (zx17_t0 P) (.node (zfo P 33) (.node (zfo P 65) (.node (zfo P 129) (.node (zfo P 257) .nil .nil) .nil) (.node (zfo P 193) .nil .nil)) (.node (zfo P 97) (.node (zfo P 161) (.node (zx289_tb11 P) .nil .nil) .nil) (.node (zfo P 225) .nil .nil))) (.node (zfo P 49) (.node (zfo P 81) (.node (zfo P 145) (.node (zfo P 273) .nil .nil) .nil) (.node (zfo P 209) .nil .nil)) (.node (zfo P 113) (.node (zfo P 177) .nil .nil) (.node (zfo P 241) .nil .nil)))) (.node (zx25_t0 P) (.node (zx41_tb7 P) (.node (zx73_tb7 P) (.node (zfo P 137) (.node (zfo P 265) .nil .nil) .nil) (.node (zfo P 201) .nil .nil)) (.node (zfo P 105) (.node (zx169_tb11 P) .nil .nil) (.node (zfo P 233) .nil .nil))) (.node (zfo P 57) (.node (zfo P 89) (.node (zx153_tb11 P) (.node (zfo P 281) .nil .nil) .nil) (.node (zfo P 217) .nil .nil)) (.node (zfo P 121) (.node (zfo P 185) .nil .nil) (.node (zfo P 249) .nil .nil))))) (.node (zfo P 13) (.node (zx21_t0 P) (.node (zfo P 37) (.node (zfo P 69) (.node (zfo P 133) (.node (zfo P 261) .nil .nil) .nil) (.node (zfo P 197) .nil .nil)) (.node (zfo P 101) (.node (zx165_tb11 P) .nil .nil) (.node (zfo P 229) .nil .nil))) (.node (zfo P 53) (.node (zfo P 85) (.node (zfo P 149) (.node (zfo P 277) .nil .nil) .nil) (.node (zfo P 213) .nil .nil)) (.node (zfo P 117) (.node (zfo P 181) .nil .nil) (.node (zfo P 245) .nil .nil)))) (.node (zx29_tb11 P) (.node (zx45_tb7 P) (.node (zfo P 77) (.node (zfo P 141) (.node (zfo P 269) .nil .nil) .nil) (.node (zfo P 205) .nil .nil)) (.node (zfo P 109) (.node (zfo P 173) .nil .nil) (.node (zfo P 237) .nil .nil))) (.node (zfo P 61) (.node (zfo P 93) (.node (zfo P 157) (.node (zfo P 285) .nil .nil) .nil) (.node (zfo P 221) .nil .nil)) (.node (zfo P 125) (.node (zfo P 189) .nil .nil) (.node (zfo P 253) .nil .nil))))))) (.node (zfo P 2) (.node (zfo P 4) (.node (zfo P 8) (.node (zx16_t0 P) (.node (zfo P 32) (.node (zfo P 64) (.node (zfo P 128) (.node (zfo P 256) .nil .nil) .nil) (.node (zfo P 192) .nil .nil)) (.node (zfo P 96) (.node (zx160_tb11 P) (.node (zx288_tb11 P) .nil .nil) .nil) (.node (zfo P 224) .nil .nil))) (.node (zfo P 48) (.node (zfo P 80) (.node (zfo P 144) (.node (zfo P 272) .nil .nil) .nil) (.node (zfo P 208) .nil .nil)) (.node (zfo P 112) (.node (zfo P 176) .nil .nil) (.node (zfo P 240) .nil .nil)))) (.node (zx24_t0 P) (.node (zx40_tb7 P) (.node (zfo P 72) (.node (zfo P 136) (.node (zfo P 264) .nil .nil) .nil) (.node (zfo P 200) .nil .nil)) (.node (zfo P 104) (.node (zx168_tb11 P) .nil .nil) (.node (zfo P 232) .nil .nil))) (.node (zfo P 56) (.node (zfo P 88) (.node (zx152_tb7 P) (.node (zfo P 280) .nil .nil) .nil) (.node (zfo P 216) .nil .nil)) (.node (zfo P 120) (.node (zfo P 184) .nil .nil) (.node (zfo P 248) .nil .nil))))) (.node (zfo P 12) (.node (zx20_t0 P) (.node (zfo P 36) (.node (zfo P 68) (.node (zfo P 132) (.node (zfo P 260) .nil .nil) .nil) (.node (zfo P 196) .nil .nil)) (.node (zfo P 100) (.node (zx164_tb11 P) .nil .nil) (.node (zfo P 228) .nil .nil))) (.node (zfo P 52) (.node (zfo P 84) (.node (zfo P 148) (.node (zfo P 276) .nil .nil) .nil) (.node (zfo P 212) .nil .nil)) (.node (zfo P 116) (.node (zfo P 180) .nil .nil) (.node (zfo P 244) .nil .nil)))) (.node (zx28_ta P) (.node (zx44_tb7 P) (.node (zx76_tb7 P) (.node (zfo P 140) (.node (zfo P 268) .nil .nil) .nil) (.node (zfo P 204) .nil .nil)) (.node (zfo P 108) (.node (zfo P 172) .nil .nil) (.node (zfo P 236) .nil .nil))) (.node (zfo P 60) (.node (zfo P 92) (.node (zfo P 156) (.node (zfo P 284) .nil .nil) .nil) (.node (zfo P 220) .nil .nil)) (.node (zfo P 124) (.node (zfo P 188) .nil .nil) (.node (zfo P 252) .nil .nil)))))) (.node (zfo P 6) (.node (zfo P 10) (.node (zx18_t0 P) (.node (zfo P 34) (.node (zfo P 66) (.node (zfo P 130) (.node (zfo P 258) .nil .nil) .nil) (.node (zfo P 194) .nil .nil)) (.node (zfo P 98) (.node (zfo P 162) .nil .nil) (.node (zfo P 226) .nil .nil))) (.node (zfo P 50) (.node (zfo P 82) (.node (zfo P 146) (.node (zfo P 274) .nil .nil) .nil) (.node (zfo P 210) .nil .nil)) (.node (zfo P 114) (.node (zfo P 178) .nil .nil) (.node (zfo P 242) .nil .nil)))) (.node (zx26_t0 P) (.node (zx42_tb7 P) (.node (zx74_tb7 P) (.node (zfo P 138) (.node (zfo P 266) .nil .nil) .nil) (.node (zfo P 202) .nil .nil)) (.node (zfo P 106) (.node (zfo P 170) .nil .nil) (.node (zfo P 234) .nil .nil))) (.node (zx58_tb7 P) (.node (zfo P 90) (.node (zx154_tb11 P) (.node (zfo P 282) .nil .nil) .nil) (.node (zfo P 218) .nil .nil)) (.node (zfo P 122) (.node (zfo P 186) .nil .nil) (.node (zfo P 250) .nil .nil))))) (.node (zfo P 14) (.node (zx22_t0 P) (.node (zfo P 38) (.node (zx70_tb7 P) (.node (zfo P 134) (.node (zfo P 262) .nil .nil) .nil) (.node (zfo P 198) .nil .nil)) (.node (zfo P 102) (.node (zx166_tb11 P) .nil .nil) (.node (zfo P 230) .nil .nil))) (.node (zfo P 54) (.node (zfo P 86) (.node (zfo P 150) (.node (zfo P 278) .nil .nil) .nil) (.node (zfo P 214) .nil .nil)) (.node (zfo P 118) (.node (zfo P 182) .nil .nil) (.node (zfo P 246) .nil .nil)))) (.node (zx30_ta P) (.node (zfo P 46) (.node (zfo P 78) (.node (zfo P 142) (.node (zfo P 270) .nil .nil) .nil) (.node (zfo P 206) .nil .nil)) (.node (zfo P 110) (.node (zfo P 174) .nil .nil) (.node (zfo P 238) .nil .nil))) (.node (zfo P 62) (.node (zfo P 94) (.node (zx158_tb11 P) (.node (zfo P 286) .nil .nil) .nil) (.node (zfo P 222) .nil .nil)) (.node (zfo P 126) (.node (zfo P 190) .nil .nil) (.node (zfo P 254) .nil .nil))))))))
noncomputable def ztz (P : Params) : BT := (.node (zfo P 0) (.node (zfo P 1) (.node (zfo P 3) (.node (zfo P 7) (.node (zfo P 15) (.node (zx31_ta P) (.node (zfo P 63) (.node (zfo P 127) (.node (zfo P 255) .nil .nil) .nil) (.node (zfo P 191) (.node (zfo P 319) .nil .nil) .nil)) (.node (zfo P 95) (.node (zx159_tb11 P) (.node (zfo P 287) .nil .nil) .nil) (.node (zfo P 223) .nil .nil))) (.node (zfo P 47) (.node (zfo P 79) (.node (zfo P 143) (.node (zfo P 271) .nil .nil) .nil) (.node (zfo P 207) .nil .nil)) (.node (zfo P 111) (.node (zfo P 175) (.node (zfo P 303) .nil .nil) .nil) (.node (zfo P 239) .nil .nil)))) (.node (zx23_t0 P) (.node (zx39_tb7 P) (.node (zx71_tb7 P) (.node (zfo P 135) (.node (zfo P 263) .nil .nil) .nil) (.node (zfo P 199) .nil .nil)) (.node (zfo P 103) (.node (zx167_tb11 P) (.node (zfo P 295) .nil .nil) .nil) (.node (zfo P 231) .nil .nil))) (.node (zfo P 55) (.node (zfo P 87) (.node (zx151_tb7 P) (.node (zfo P 279) .nil .nil) .nil) (.node (zfo P 215) .nil .nil)) (.node (zfo P 119) (.node (zfo P 183) (.node (zfo P 311) .nil .nil) .nil) (.node (zfo P 247) .nil .nil))))) (.node (zfo P 11) (.node (zx19_t0 P) (.node (zfo P 35) (.node (zfo P 67) (.node (zfo P 131) (.node (zfo P 259) .nil .nil) .nil) (.node (zfo P 195) (.node (zfo P 323) .nil .nil) .nil)) (.node (zfo P 99) (.node (zx163_tb11 P) (.node (zfo P 291) .nil .nil) .nil) (.node (zfo P 227) .nil .nil))) (.node (zfo P 51) (.node (zfo P 83) (.node (zfo P 147) (.node (zfo P 275) .nil .nil) .nil) (.node (zfo P 211) .nil .nil)) (.node (zfo P 115) (.node (zfo P 179) (.node (zfo P 307) .nil .nil) .nil) (.node (zfo P 243) .nil .nil)))) (.node (zx27_t0 P) (.node (zx43_tb7 P) (.node (zx75_tb7 P) (.node (zfo P 139) (.node (zfo P 267) .nil .nil) .nil) (.node (zfo P 203) .nil .nil)) (.node (zfo P 107) (.node (zfo P 171) (.node (zfo P 299) .nil .nil) .nil) (.node (zfo P 235) .nil .nil))) (.node (zx59_tb7 P) (.node (zfo P 91) (.node (zx155_tb11 P) (.node (zfo P 283) .nil .nil) .nil) (.node (zfo P 219) .nil .nil)) (.node (zfo P 123) (.node (zfo P 187) (.node (zfo P 315) .nil .nil) .nil) (.node (zfo P 251) .nil .nil)))))) (.node (zfo P 5) (.node (zfo P 9) (.node (zx17_t0 P) (.node (zfo P 33) (.node (zfo P 65) (.node (zfo P 129) (.node (zfo P 257) .nil .nil) .nil) (.node (zfo P 193) (.node (zfo P 321) .nil .nil) .nil)) (.node (zfo P 97) (.node (zfo P 161) (.node (zx289_tb11 P) .nil .nil) .nil) (.node (zfo P 225) .nil .nil))) (.node (zfo P 49) (.node (zfo P 81) (.node (zfo P 145) (.node (zfo P 273) .nil .nil) .nil) (.node (zfo P 209) .nil .nil)) (.node (zfo P 113) (.node (zfo P 177) (.node (zfo P 305) .nil .nil) .nil) (.node (zfo P 241) .nil .nil)))) (.node (zx25_t0 P) (.node (zx41_tb7 P) (.node (zx73_tb7 P) (.node (zfo P 137) (.node (zfo P 265) .nil .nil) .nil) (.node (zfo P 201) .nil .nil)) (.node (zfo P 105) (.node (zx169_tb11 P) (.node (zfo P 297) .nil .nil) .nil) (.node (zfo P 233) .nil .nil))) (.node (zfo P 57) (.node (zfo P 89) (.node (zx153_tb11 P) (.node (zfo P 281) .nil .nil) .nil) (.node (zfo P 217) .nil .nil)) (.node (zfo P 121) (.node (zfo P 185) (.node (zfo P 313) .nil .nil) .nil) (.node (zfo P 249) .nil .nil))))) (.node (zfo P 13) (.node (zx21_t0 P) (.node (zfo P 37) (.node (zfo P 69) (.node (zfo P 133) (.node (zfo P 261) .nil .nil) .nil) (.node (zfo P 197) .nil .nil)) (.node (zfo P 101) (.node (zx165_tb11 P) (.node (zfo P 293) .nil .nil) .nil) (.node (zfo P 229) .nil .nil))) (.node (zfo P 53) (.node (zfo P 85) (.node (zfo P 149) (.node (zfo P 277) .nil .nil) .nil) (.node (zfo P 213) .nil .nil)) (.node (zfo P 117) (.node (zfo P 181) (.node (zfo P 309) .nil .nil) .nil) (.node (zfo P 245) .nil .nil)))) (.node (zx29_tz P) (.node (zx45_tb7 P) (.node (zfo P 77) (.node (zfo P 141) (.node (zfo P 269) .nil .nil) .nil) (.node (zfo P 205) .nil .nil)) (.node (zfo P 109) (.node (zfo P 173) (.node (zfo P 301) .nil .nil) .nil) (.node (zfo P 237) .nil .nil))) (.node (zfo P 61) (.node (zfo P 93) (.node (zfo P 157) (.node (zfo P 285) .nil .nil) .nil) (.node (zfo P 221) .nil .nil)) (.node (zfo P 125) (.node (zfo P 189) (.node (zfo P 317) .nil .nil) .nil) (.node (zfo P 253) .nil .nil))))))) (.node (zfo P 2) (.node (zfo P 4) (.node (zfo P 8) (.node (zx16_t0 P) (.node (zfo P 32) (.node (zfo P 64) (.node (zfo P 128) (.node (zfo P 256) .nil .nil) .nil) (.node (zfo P 192) (.node (zfo P 320) .nil .nil) .nil)) (.node (zfo P 96) (.node (zx160_tb11 P) (.node (zx288_tb11 P) .nil .nil) .nil) (.node (zfo P 224) .nil .nil))) (.node (zfo P 48) (.node (zfo P 80) (.node (zfo P 144) (.node (zfo P 272) .nil .nil) .nil) (.node (zfo P 208) .nil .nil)) (.node (zfo P 112) (.node (zfo P 176) (.node (zfo P 304) .nil .nil) .nil) (.node (zfo P 240) .nil .nil)))) (.node (zx24_t0 P) (.node (zx40_tb7 P) (.node (zfo P 72) (.node (zfo P 136) (.node (zfo P 264) .nil .nil) .nil) (.node (zfo P 200) .nil .nil)) (.node (zfo P 104) (.node (zx168_tb11 P) (.node (zfo P 296) .nil .nil) .nil) (.node (zfo P 232) .nil .nil))) (.node (zfo P 56) (.node (zfo P 88) (.node (zx152_tb7 P) (.node (zfo P 280) .nil .nil) .nil) (.node (zfo P 216) .nil .nil)) (.node (zfo P 120) (.node (zfo P 184) (.node (zfo P 312) .nil .nil) .nil) (.node (zfo P 248) .nil .nil))))) (.node (zfo P 12) (.node (zx20_t0 P) (.node (zfo P 36) (.node (zfo P 68) (.node (zfo P 132) (.node (zfo P 260) .nil .nil) .nil) (.node (zfo P 196) .nil .nil)) (.node (zfo P 100) (.node (zx164_tb11 P) (.node (zfo P 292) .nil .nil) .nil) (.node (zfo P 228) .nil .nil))) (.node (zfo P 52) (.node (zfo P 84) (.node (zfo P 148) (.node (zfo P 276) .nil .nil) .nil) (.node (zfo P 212) .nil .nil)) (.node (zfo P 116) (.node (zfo P 180) (.node (zfo P 308) .nil .nil) .nil) (.node (zfo P 244) .nil .nil)))) (.node (zx28_ta P) (.node (zx44_tb7 P) (.node (zx76_tb7 P) (.node (zfo P 140) (.node (zfo P 268) .nil .nil) .nil) (.node (zfo P 204) .nil .nil)) (.node (zfo P 108) (.node (zfo P 172) (.node (zfo P 300) .nil .nil) .nil) (.node (zfo P 236) .nil .nil))) (.node (zfo P 60) (.node (zfo P 92) (.node (zfo P 156) (.node (zfo P 284) .nil .nil) .nil) (.node (zfo P 220) .nil .nil)) (.node (zfo P 124) (.node (zfo P 188) (.node (zfo P 316) .nil .nil) .nil) (.node (zfo P 252) .nil .nil)))))) (.node (zfo P 6) (.node (zfo P 10) (.node (zx18_t0 P) (.node (zfo P 34) (.node (zfo P 66) (.node (zfo P 130) (.node (zfo P 258) .nil .nil) .nil) (.node (zfo P 194) (.node (zfo P 322) .nil .nil) .nil)) (.node (zfo P 98) (.node (zfo P 162) (.node (zfo P 290) .nil .nil) .nil) (.node (zfo P 226) .nil .nil))) (.node (zfo P 50) (.node (zfo P 82) (.node (zfo P 146) (.node (zfo P 274) .nil .nil) .nil) (.node (zfo P 210) .nil .nil)) (.node (zfo P 114) (.node (zfo P 178) (.node (zfo P 306) .nil .nil) .nil) (.node (zfo P 242) .nil .nil)))) (.node (zx26_t0 P) (.node (zx42_tb7 P) (.node (zx74_tb7 P) (.node (zfo P 138) (.node (zfo P 266) .nil .nil) .nil) (.node (zfo P 202) .nil .nil)) (.node (zfo P 106) (.node (zfo P 170) (.node (zfo P 298) .nil .nil) .nil) (.node (zfo P 234) .nil .nil))) (.node (zx58_tb7 P) (.node (zfo P 90) (.node (zx154_tb11 P) (.node (zfo P 282) .nil .nil) .nil) (.node (zfo P 218) .nil .nil)) (.node (zfo P 122) (.node (zfo P 186) (.node (zfo P 314) .nil .nil) .nil) (.node (zfo P 250) .nil .nil))))) (.node (zfo P 14) (.node (zx22_t0 P) (.node (zfo P 38) (.node (zx70_tb7 P) (.node (zfo P 134) (.node (zfo P 262) .nil .nil) .nil) (.node (zfo P 198) .nil .nil)) (.node (zfo P 102) (.node (zx166_tb11 P) (.node (zfo P 294) .nil .nil) .nil) (.node (zfo P 230) .nil .nil))) (.node (zfo P 54) (.node (zfo P 86) (.node (zfo P 150) (.node (zfo P 278) .nil .nil) .nil) (.node (zfo P 214) .nil .nil)) (.node (zfo P 118) (.node (zfo P 182) (.node (zfo P 310) .nil .nil) .nil) (.node (zfo P 246) .nil .nil)))) (.node (zx30_ta P) (.node (zfo P 46) (.node (zfo P 78) (.node (zfo P 142) (.node (zfo P 270) .nil .nil) .nil) (.node (zfo P 206) .nil .nil)) (.node (zfo P 110) (.node (zfo P 174) (.node (zfo P 302) .nil .nil) .nil) (.node (zfo P 238) .nil .nil))) (.node (zfo P 62) (.node (zfo P 94) (.node (zx158_tb11 P) (.node (zfo P 286) .nil .nil) .nil) (.node (zfo P 222) .nil .nil)) (.node (zfo P 126) (.node (zfo P 190) (.node (zfo P 318) .nil .nil) .nil) (.node (zfo P 254) .nil .nil))))))))
def zhbE (p : Program) : List Stmt := behindTheImports p
def zhpos0 : Pos := ⟨0, 0, 0, 0⟩
def zhenv (p : Program) : Env := { scope := p.main.scope, locals := mainNs, globals := mainNs, cells := [], code := Value.ref 30, frame := some 31 }
def zhcE (p : Program) : Code := .body (zhbE p) (zhenv p)
def zhSt (t : Params → BT) (n k : Nat) (w : World) (os : OsState) : SharedT := ⟨t w.params, n, {}, #[], {}, k, os⟩
def zhann : Option Value := some (.ref 6)
def zhl1 (p : Program) : List Stmt := (zhbE p).take 8
def zhl2 (p : Program) : List Stmt := ((zhbE p).drop 8).take 4
def zhl3 (p : Program) : List Stmt := (zhbE p).drop 12
def zhth (l : List Stmt) (p : Program) (q : Pos) : Thread := piecesOf l (zhenv p) (zhcE p) q [topFrame zhpos0]
set_option maxHeartbeats 0 in
theorem zg1 (w : World) (os : OsState) : segRunT treeTable PySem.Challenge.rw_wk0037_01.row.prog w 28 zhann 1 867 (zhSt zta 32 282 w os) (zhth (zhl1 PySem.Challenge.rw_wk0037_01.row.prog) PySem.Challenge.rw_wk0037_01.row.prog zhpos0)
   = some (.next, zhSt ztb7 153 428 w os, zhcE PySem.Challenge.rw_wk0037_01.row.prog, ⟨19, 0, 49, 32⟩) := by
  rw [PySem.W.Fast.te10110043849684766642, PySem.W.Fast.te14364793385576792824]
  kernel_rfl
set_option maxHeartbeats 0 in
theorem zg2 (w : World) (os : OsState) : segRunT treeTable PySem.Challenge.rw_wk0037_01.row.prog w 28 zhann 1 883 (zhSt ztb7 153 428 w os) (zhth (zhl2 PySem.Challenge.rw_wk0037_01.row.prog) PySem.Challenge.rw_wk0037_01.row.prog ⟨19, 0, 49, 32⟩)
   = some (.next, zhSt ztb11 290 646 w os, zhcE PySem.Challenge.rw_wk0037_01.row.prog, ⟨53, 0, 122, 16⟩) := by
  rw [PySem.W.Fast.te10110043849684766642, PySem.W.Fast.te14364793385576792824]
  kernel_rfl
set_option maxHeartbeats 0 in
theorem zg3 (w : World) (os : OsState) : segRunT treeTable PySem.Challenge.rw_wk0037_01.row.prog w 28 zhann 1 185 (zhSt ztb11 290 646 w os) (zhth (zhl3 PySem.Challenge.rw_wk0037_01.row.prog) PySem.Challenge.rw_wk0037_01.row.prog ⟨53, 0, 122, 16⟩)
   = some (.next, zhSt ztz 324 699 w os, zhcE PySem.Challenge.rw_wk0037_01.row.prog, ⟨165, 0, 186, 50⟩) := by
  rw [PySem.W.Fast.te10110043849684766642, PySem.W.Fast.te14364793385576792824]
  kernel_rfl
noncomputable def zhp0 (P : Params) : Heap := absHeap (zt0 P) 28 {}
noncomputable def zhp1 (P : Params) : Heap := absHeap (ztz P) 324 {}
set_option maxHeartbeats 0 in
theorem zgpre (w : World) (os : OsState) : topGo treeTable PySem.Challenge.rw_wk0037_01.row.prog w 28 zhann 12 (zhSt zt0 28 276 w os).abs (topStub PySem.Challenge.rw_wk0037_01.row.prog)
   = some ((zhSt zta 32 282 w os).abs, ⟨denote treeTable (zhcE PySem.Challenge.rw_wk0037_01.row.prog), zhcE PySem.Challenge.rw_wk0037_01.row.prog, zhpos0, [topFrame zhpos0]⟩) := by
  rw [PySem.W.Fast.te15667345088766844465, PySem.W.Fast.te11892475500146522536, PySem.W.Fast.te14364793385576792824]
  kernel_rfl
set_option maxHeartbeats 0 in
theorem zgblock (w : World) (os : OsState) : segRun treeTable PySem.Challenge.rw_wk0037_01.row.prog w 28 zhann 1 1 (zhSt zta 32 282 w os).abs (blockOf (zhbE PySem.Challenge.rw_wk0037_01.row.prog) (zhenv PySem.Challenge.rw_wk0037_01.row.prog) (zhcE PySem.Challenge.rw_wk0037_01.row.prog) zhpos0 [topFrame zhpos0])
   = some (.next, (zhSt zta 32 282 w os).abs, zhcE PySem.Challenge.rw_wk0037_01.row.prog, zhpos0) := by
  rw [PySem.W.Fast.te14374325043358763698, PySem.W.Fast.te14364793385576792824]
  kernel_rfl
set_option maxHeartbeats 0 in
theorem zgfin (w : World) (os : OsState) : topRun treeTable PySem.Challenge.rw_wk0037_01.row.prog w 28 zhann 2 (zhSt ztz 324 699 w os).abs ⟨doneF .next, zhcE PySem.Challenge.rw_wk0037_01.row.prog, ⟨165, 0, 186, 50⟩, [topFrame zhpos0]⟩
   = some (zhSt ztz 324 699 w os).abs := by
  rw [PySem.W.Fast.te14082659384304107361, PySem.W.Fast.te14364793385576792824]
  kernel_rfl
theorem zgsplit : zhbE PySem.Challenge.rw_wk0037_01.row.prog = zhl1 PySem.Challenge.rw_wk0037_01.row.prog ++ (zhl2 PySem.Challenge.rw_wk0037_01.row.prog ++ (zhl3 PySem.Challenge.rw_wk0037_01.row.prog ++ [])) := by kernel_rfl
set_option maxHeartbeats 0 in
theorem zgrun (w : World) (os : OsState) : topRun treeTable PySem.Challenge.rw_wk0037_01.row.prog w 28 zhann (12 + (1 + (867 + (883 + (185 + 2))))) (zhSt zt0 28 276 w os).abs (topStub PySem.Challenge.rw_wk0037_01.row.prog) = some (zhSt ztz 324 699 w os).abs := by
  refine go_top (zgpre w os) (piece_block (zgblock w os) ?_)
  rw [zgsplit]
  exact piece_app (segRun_of (zg1 w os)) (piece_app (segRun_of (zg2 w os)) (piece_app (segRun_of (zg3 w os)) (piece_nil (zgfin w os))))
set_option maxHeartbeats 0 in
theorem zgopen : ∀ w : World, (fencedOpening treeTable PySem.Challenge.rw_wk0037_01.row.prog w 3990).map (fun s => (s.heap, s.gens, s.drawn, s.toks)) = some (zhp0 w.params, #[], {}, 276) := by
  intro w
  unfold fencedOpening
  rw [PySem.W.Fast.te10274390034422433532, PySem.W.Fast.te1435165496053646825, PySem.W.Fast.te14289696077712309145, PySem.W.Fast.te14364793385576792824]
  kernel_rfl
theorem zgsize : ∀ w : World, ((zhp0 w.params).isNs mainGlobals && (#[] : Array GenState).size == 0, (zhp0 w.params).objs.size, (zhp0 w.params).nsMap mainGlobals "__annotations__") = (true, 28, zhann) := by
  intro w; kernel_rfl
def zvw : Program := view PySem.Challenge.rw_wk0037_01.row.prog [0, 1, 3, 4, 5, 7, 8, 10, 11, 12, 14, 15, 16, 17, 18, 19]
def zadrs : List Nat := [0, 1, 2, 3, 4, 5, 6, 7, 8, 9, 10, 11, 12, 13, 14, 15, 32, 33, 34, 35, 36, 37, 38, 46, 47, 48, 49, 50, 51, 52, 53, 54, 55, 56, 57, 60, 61, 62, 63, 64, 65, 66, 67, 68, 69, 72, 77, 78, 79, 80, 81, 82, 83, 84, 85, 86, 87, 88, 89, 90, 91, 92, 93, 94, 95, 96, 97, 98, 99, 100, 101, 102, 103, 104, 105, 106, 107, 108, 109, 110, 111, 112, 113, 114, 115, 116, 117, 118, 119, 120, 121, 122, 123, 124, 125, 126, 127, 128, 129, 130, 131, 132, 133, 134, 135, 136, 137, 138, 139, 140, 141, 142, 143, 144, 145, 146, 147, 148, 149, 150, 156, 157, 161, 162, 170, 171, 172, 173, 174, 175, 176, 177, 178, 179, 180, 181, 182, 183, 184, 185, 186, 187, 188, 189, 190, 191, 192, 193, 194, 195, 196, 197, 198, 199, 200, 201, 202, 203, 204, 205, 206, 207, 208, 209, 210, 211, 212, 213, 214, 215, 216, 217, 218, 219, 220, 221, 222, 223, 224, 225, 226, 227, 228, 229, 230, 231, 232, 233, 234, 235, 236, 237, 238, 239, 240, 241, 242, 243, 244, 245, 246, 247, 248, 249, 250, 251, 252, 253, 254, 255, 256, 257, 258, 259, 260, 261, 262, 263, 264, 265, 266, 267, 268, 269, 270, 271, 272, 273, 274, 275, 276, 277, 278, 279, 280, 281, 282, 283, 284, 285, 286, 287, 290, 291, 292, 293, 294, 295, 296, 297, 298, 299, 300, 301, 302, 303, 304, 305, 306, 307, 308, 309, 310, 311, 312, 313, 314, 315, 316, 317, 318, 319, 320, 321, 322, 323]
theorem zadrs_ok : ∀ P, zadrs = (frag.heap_1 P).map (·.1) := fun _ => by kernel_rfl
set_option maxHeartbeats 0 in
theorem zglooks : ∀ w : World, (fun os => ((staticsOk (importedModules (PySem.Challenge.rw_wk0037_01.row.prog).main.body) (zhp0 w.params) (zhp1 w.params) && namesBound PySem.Challenge.rw_wk0037_01.row.prog (zhp1 w.params) && gensDone ⟨zhp1 w.params, #[], {}, 699, os⟩ && laidKept (zhp0 w.params) (zhp1 w.params)),
        openSeen zvw [Str.ofString "UNKNOWN", Str.ofString "_Accumulator", Str.ofString "_name_disallowed_re", Str.ofString "_value_disallowed_re"] (importedModules (PySem.Challenge.rw_wk0037_01.row.prog).main.body) (fun s => xlAt zvw [] s && recOk (RowW.records (OpenRow.toRowW PySem.Challenge.rw_wk0037_01.row)) s) true ⟨zhp1 w.params, #[], {}, 699, os⟩, (kHook frag.heap_1 zadrs zadrs_ok).obs ⟨zhp1 w.params, #[], {}, 699, os⟩))
   = fun _ => (true, openGood zvw [Str.ofString "UNKNOWN", Str.ofString "_Accumulator", Str.ofString "_name_disallowed_re", Str.ofString "_value_disallowed_re"], (kHook frag.heap_1 zadrs zadrs_ok).val w) := by
  intro w
  rw [PySem.W.Fast.te4187177175401517315]
  kernel_rfl
set_option maxHeartbeats 0 in
theorem zgleft : LeftO PySem.Challenge.rw_wk0037_01.row.prog zvw [Str.ofString "UNKNOWN", Str.ofString "_Accumulator", Str.ofString "_name_disallowed_re", Str.ofString "_value_disallowed_re"] (fun s => xlAt zvw [] s && recOk (RowW.records (OpenRow.toRowW PySem.Challenge.rw_wk0037_01.row)) s) (kHook frag.heap_1 zadrs zadrs_ok).obs (kHook frag.heap_1 zadrs zadrs_ok).val 3990 :=
  LeftO.of_pieces (H₀ := zhp0) (H₁ := zhp1) (gs₀ := #[]) (gs₁ := #[]) (d₀ := {}) (d₁ := {}) (k₀ := 276) (k₁ := 699) (m₀ := 28) (ann := zhann) (M := 12 + (1 + (867 + (883 + (185 + 2))))) zgopen zgsize zgrun (by rfl) zglooks
set_option maxHeartbeats 0 in
theorem zgsaid : OpenLaw.wellSaid PySem.Challenge.rw_wk0037_01 = true := by
  rw [PySem.W.Fast.te9446332074065402090]
  kernel_rfl
section
local macro_rules | `(tactic| o_law) => `(tactic| refine holds_law zgsaid fun said => ?_)
local macro_rules | `(tactic| k_head) => `(tactic| refine holds_open (q := zvw) (loose := [Str.ofString "UNKNOWN", Str.ofString "_Accumulator", Str.ofString "_name_disallowed_re", Str.ofString "_value_disallowed_re"]) (Xt := fun s => xlAt zvw [] s && recOk (RowW.records (OpenRow.toRowW PySem.Challenge.rw_wk0037_01.row)) s) (XP := XL zvw []) (Yf := Hook.obs (kHook frag.heap_1 zadrs zadrs_ok)) (Ya := Hook.val (kHook frag.heap_1 zadrs zadrs_ok)) (YP := Hook.says (kHook frag.heap_1 zadrs zadrs_ok)) (N := 3990)
  zgleft (Hook.of (kHook frag.heap_1 zadrs zadrs_ok)) (Hook.keeps (kHook frag.heap_1 zadrs zadrs_ok)) (fun s e => xl_of s (Bool.and_eq_true_iff.mp e).1) XL.keeps (by rfl) (by rfl) (by rfl) (fun s e => recFacts_of (Bool.and_eq_true_iff.mp e).2) (by rfl) (by first | assumption | decide +kernel) (by decide +kernel) ⟨rfl, rfl, rfl, rfl, rfl, by decide +kernel⟩ ?hw ?hc)
set_option maxHeartbeats 0 in
open_top hd for PySem.Challenge.rw_wk0037_01
end
end Mine
end

section
open PySem PySem.W PySem.W.X PyProof.Rows PySem.Calls
namespace Mine

/-! part F1 -/
abbrev PT : Addr := 117

structure Cx where
  w : World
  hb : Heap
  os : OsState
  mg : Str → Option Value
  mb : Str → Option Value

noncomputable abbrev Cx.MD (c : Cx) : Model := model PySem.Challenge.rw_wk0037_01.row.prog c.w
noncomputable abbrev Cx.K (c : Cx) : Frag := (frag.heap_1 c.w.params).filter fun x => !(Nat.beq x.1 PT)

structure Cx.Ok (c : Cx) : Prop where
  kin : c.K.In c.hb
  pt : c.hb.get? PT = none
  lim : c.hb.NoLimit
  g : c.hb.Ns mainGlobals c.mg
  b : c.hb.Ns builtinsNs c.mb
  mgv : ∀ x v, nsIn (frag.heap_1 c.w.params) mainGlobals x = some v → c.mg x = v
  mbv : ∀ x, (x == ("__name__" : Str)) = false → c.mb x = bootBuiltins x

abbrev Fs := List (Addr × (Str → Option Value))
abbrev Ld := List (Addr × Obj)
abbrev addrs (fs : Fs) (ld : Ld) : List Addr := fs.map (·.1) ++ ld.map (·.1)

/-- what the table of `__str__`'s code holds: nothing yet, or the one generator's code -/
def TabOk (h : Heap) (as : List Addr) (vs : Array Value) : Prop :=
  vs = #[] ∨ ∃ (c' : Addr) (o : Obj), vs = #[rawInt 40, rawInt 32, .ref c'] ∧ h.get? c' = some o ∧ c' ∉ as ∧ c' ≠ PT ∧ h.CodeRec (.ref c') (Str.ofString "_Accumulator.__str__.<locals>.<genexpr>")

structure St (c : Cx) (fs : Fs) (ld : Ld) (s : Shared) : Prop where
  fr : ∀ p ∈ fs, s.heap.Ns p.1 p.2
  ob : ∀ p ∈ ld, s.heap.get? p.1 = some p.2
  nd : (addrs fs ld).Nodup
  nb : ∀ a ∈ addrs fs ld, c.hb.get? a = none ∧ a ≠ PT
  base : ∀ b o, c.hb.get? b = some o → s.heap.get? b = some o
  tb : ∃ vs, s.heap.get? PT = some (tableObj vs) ∧ TabOk s.heap (addrs fs ld) vs
  gens : AllBare s.gens
  os : s.os = c.os
  ok : c.Ok

section
variable {c : Cx} {fs fs' : Fs} {ld ld' : Ld} {s : Shared} {h' : Heap} {tk : Nat} {W : List Addr}

theorem TabOk.keep {h h' : Heap} {as : List Addr} {vs : Array Value} (T : TabOk h as vs) (hk : ∀ b o, b ∉ W → h.get? b = some o → h'.get? b = some o) (hW : ∀ b ∈ W, b ∈ as) : TabOk h' as vs := by
  rcases T with rfl | ⟨c', o, rfl, ho, hc, hp, hr⟩
  · exact .inl rfl
  · have hn : c' ∉ W := fun hm => hc (hW _ hm)
    refine .inr ⟨c', o, rfl, hk _ _ hn ho, hc, hp, ?_⟩
    obtain ⟨c₂, o₂, vs₂, t₂, e₂, g₂, r₂⟩ := hr
    cases e₂
    exact ⟨_, o₂, vs₂, t₂, rfl, hk _ _ hn g₂, r₂⟩

theorem St.keep (I : St c fs ld s) (hk : ∀ b o, b ∉ W → s.heap.get? b = some o → h'.get? b = some o) (hW : ∀ b ∈ W, b ∈ addrs fs ld)
    (ha : addrs fs' ld' = addrs fs ld) (hf : ∀ p ∈ fs', h'.Ns p.1 p.2) (ho : ∀ p ∈ ld', h'.get? p.1 = some p.2) : St c fs' ld' { s with heap := h', toks := tk } where
  fr := hf
  ob := ho
  nd := by rw [ha]; exact I.nd
  nb := by rw [ha]; exact I.nb
  base := fun b o e => hk b o (fun hm => by have := (I.nb b (hW b hm)).1; rw [e] at this; cases this) (I.base b o e)
  tb := by
    obtain ⟨vs, e, T⟩ := I.tb
    refine ⟨vs, hk _ _ (fun hm => (I.nb _ (hW _ hm)).2 rfl) e, ?_⟩
    rw [ha]
    exact T.keep hk hW
  gens := I.gens
  os := I.os
  ok := I.ok

theorem St.same (I : St c fs ld s) (hk : ∀ b o, s.heap.get? b = some o → h'.get? b = some o) : St c fs ld { s with heap := h', toks := tk } :=
  I.keep (W := []) (fun b o _ e => hk b o e) (fun _ h => (nomatch h)) rfl (fun p hp => (I.fr p hp).keeps hk) (fun p hp => hk _ _ (I.ob p hp))

theorem St.tok (I : St c fs ld s) : St c fs ld { s with toks := tk } := I.same (h' := s.heap) fun _ _ e => e

theorem St.setFr {L : Addr} {m m' : Str → Option Value} (I : St c ((L, m) :: fs) ld s) (hn : h'.Ns L m') (hs : ∀ b o, b ≠ L → s.heap.get? b = some o → h'.get? b = some o) : St c ((L, m') :: fs) ld { s with heap := h', toks := tk } := by
  have nd := I.nd
  simp only [addrs, List.map_cons, List.cons_append, List.nodup_cons] at nd
  refine I.keep (W := [L]) (fun b o hb e => hs b o (fun h => hb (by simp [h])) e) (fun b hb => by simp at hb; simp [hb]) rfl (fun p hp => ?_) (fun p hp => ?_)
  · rcases List.mem_cons.mp hp with rfl | hp
    · exact hn
    · obtain ⟨o, es, ep, x, r⟩ := I.fr p (.tail _ hp)
      exact ⟨o, es, ep, hs _ _ (fun h => nd.1 (List.mem_append.mpr (.inl (List.mem_map.mpr ⟨p, hp, h⟩)))) x, r⟩
  · exact hs _ _ (fun h => nd.1 (List.mem_append.mpr (.inr (List.mem_map.mpr ⟨p, hp, h⟩)))) (I.ob p hp)

theorem St.setOb {a : Addr} {o o' : Obj} (I : St c fs ((a, o) :: ld) s) (hn : h'.get? a = some o') (hs : ∀ b x, b ≠ a → s.heap.get? b = some x → h'.get? b = some x) : St c fs ((a, o') :: ld) { s with heap := h', toks := tk } := by
  have nd := I.nd
  simp only [addrs, List.map_cons] at nd
  have nd2 := (List.nodup_append.mp nd)
  refine I.keep (W := [a]) (fun b o hb e => hs b o (fun h => hb (by simp [h])) e) (fun b hb => by simp at hb; simp [hb]) rfl (fun p hp => ?_) (fun p hp => ?_)
  · obtain ⟨o, es, ep, x, r⟩ := I.fr p hp
    exact ⟨o, es, ep, hs _ _ (fun h => nd2.2.2 p.1 (List.mem_map.mpr ⟨p, hp, rfl⟩) a (.head _) h) x, r⟩
  · rcases List.mem_cons.mp hp with rfl | hp
    · exact hn
    · exact hs _ _ (fun h => (List.nodup_cons.mp nd2.2.1).1 (List.mem_map.mpr ⟨p, hp, h⟩)) (I.ob p (.tail _ hp))

theorem St.lt (I : St c fs ld s) {a : Addr} (ha : a ∈ addrs fs ld) : a < s.heap.objs.size := by
  rcases List.mem_append.mp ha with h | h
  · obtain ⟨p, hp, rfl⟩ := List.mem_map.mp h
    exact (I.fr p hp).lt
  · obtain ⟨p, hp, rfl⟩ := List.mem_map.mp h
    exact Heap.lt_size (I.ob p hp)

theorem St.fresh (I : St c fs ld s) : s.heap.objs.size ∉ addrs fs ld ∧ c.hb.get? s.heap.objs.size = none ∧ s.heap.objs.size ≠ PT := by
  refine ⟨fun h => Nat.lt_irrefl _ (I.lt h), ?_, fun h => ?_⟩
  · cases q : c.hb.get? s.heap.objs.size with
    | none => rfl
    | some o => exact absurd (Heap.lt_size (I.base _ _ q)) (Nat.lt_irrefl _)
  · obtain ⟨vs, e, _⟩ := I.tb
    rw [← h] at e
    exact absurd (Heap.lt_size e) (Nat.lt_irrefl _)

/-- a new object that is kept in the ledger -/
theorem St.new (I : St c fs ld s) {o : Obj} {a : Addr} (hz : a = s.heap.objs.size) (hn : h'.get? a = some o) (hk : ∀ b o, s.heap.get? b = some o → h'.get? b = some o) : St c fs ((a, o) :: ld) { s with heap := h', toks := tk } := by
  have fr := I.fresh
  rw [← hz] at fr
  have J := I.same (tk := tk) hk
  have pm : (addrs fs ((a, o) :: ld)).Perm (a :: addrs fs ld) := by
    simp only [addrs, List.map_cons]
    exact List.perm_middle
  refine ⟨J.fr, fun p hp => ?_, pm.nodup_iff.mpr (List.nodup_cons.mpr ⟨fr.1, I.nd⟩), fun b hb => ?_, J.base, ?_, I.gens, I.os, I.ok⟩
  · rcases List.mem_cons.mp hp with rfl | hp
    · exact hn
    · exact J.ob p hp
  · rcases List.mem_cons.mp (pm.mem_iff.mp hb) with rfl | hb
    · exact fr.2
    · exact I.nb b hb
  · obtain ⟨vs, e, T⟩ := I.tb
    refine ⟨vs, hk _ _ e, ?_⟩
    rcases T with rfl | ⟨c', x, rfl, ho, hc, hp, hr⟩
    · exact .inl rfl
    · refine .inr ⟨c', x, rfl, hk _ _ ho, fun hm => ?_, hp, hr.keeps hk⟩
      rcases List.mem_cons.mp (pm.mem_iff.mp hm) with h | hm
      · exact absurd (Heap.lt_size ho) (by rw [h, hz]; exact Nat.lt_irrefl _)
      · exact hc hm

theorem St.newFr (I : St c fs ld s) {m : Str → Option Value} {a : Addr} (hz : a = s.heap.objs.size) (hn : h'.Ns a m) (hk : ∀ b o, s.heap.get? b = some o → h'.get? b = some o) : St c ((a, m) :: fs) ld { s with heap := h', toks := tk } := by
  have fr := I.fresh
  rw [← hz] at fr
  have J := I.same (tk := tk) hk
  refine ⟨fun p hp => ?_, J.ob, List.nodup_cons.mpr ⟨fr.1, I.nd⟩, fun b hb => ?_, J.base, ?_, I.gens, I.os, I.ok⟩
  · rcases List.mem_cons.mp hp with rfl | hp
    · exact hn
    · exact J.fr p hp
  · rcases List.mem_cons.mp hb with rfl | hb
    · exact fr.2
    · exact I.nb b hb
  · obtain ⟨vs, e, T⟩ := I.tb
    refine ⟨vs, hk _ _ e, ?_⟩
    rcases T with rfl | ⟨c', x, rfl, ho, hc, hp, hr⟩
    · exact .inl rfl
    · refine .inr ⟨c', x, rfl, hk _ _ ho, fun hm => ?_, hp, hr.keeps hk⟩
      rcases List.mem_cons.mp hm with h | hm
      · exact absurd (Heap.lt_size ho) (by rw [h, hz]; exact Nat.lt_irrefl _)
      · exact hc hm

theorem TabOk.sub {h : Heap} {as as' : List Addr} {vs : Array Value} (T : TabOk h as vs) (hs : ∀ a ∈ as', a ∈ as) : TabOk h as' vs := by
  rcases T with rfl | ⟨c', x, rfl, ho, hc, r⟩
  · exact .inl rfl
  · exact .inr ⟨c', x, rfl, ho, fun hm => hc (hs _ hm), r⟩

theorem St.sub (I : St c fs ld s) (hf : ∀ p ∈ fs', p ∈ fs) (hl : ∀ p ∈ ld', p ∈ ld) (hnd : (addrs fs' ld').Nodup) : St c fs' ld' s := by
  have hs : ∀ a ∈ addrs fs' ld', a ∈ addrs fs ld := fun a ha => by
    rcases List.mem_append.mp ha with h | h
    · obtain ⟨p, hp, rfl⟩ := List.mem_map.mp h
      exact List.mem_append.mpr (.inl (List.mem_map.mpr ⟨p, hf p hp, rfl⟩))
    · obtain ⟨p, hp, rfl⟩ := List.mem_map.mp h
      exact List.mem_append.mpr (.inr (List.mem_map.mpr ⟨p, hl p hp, rfl⟩))
  exact ⟨fun p hp => I.fr p (hf p hp), fun p hp => I.ob p (hl p hp), hnd, fun a ha => I.nb a (hs a ha), I.base, let ⟨vs, e, T⟩ := I.tb; ⟨vs, e, T.sub hs⟩, I.gens, I.os, I.ok⟩

theorem St.perm (I : St c fs ld s) (hp : ld'.Perm ld) : St c fs ld' s :=
  I.sub (fun _ h => h) (fun _ h => hp.mem_iff.mp h) (((hp.map (·.1)).append_left _).nodup_iff.mpr I.nd)
theorem St.subl (I : St c fs ld s) (hp : ld'.Sublist ld) : St c fs ld' s :=
  I.sub (fun _ h => h) (fun _ h => hp.subset h) (List.Nodup.sublist (List.Sublist.append (List.Sublist.refl _) (hp.map _)) I.nd)
theorem St.drop {p : Addr × Obj} (I : St c fs (p :: ld) s) : St c fs ld s := I.subl (List.sublist_cons_self _ _)
theorem St.dropFr {p : Addr × (Str → Option Value)} (I : St c (p :: fs) ld s) : St c fs ld s :=
  I.sub (fun _ h => .tail _ h) (fun _ h => h) (List.nodup_cons.mp I.nd).2

/-- room for so many calls more -/
structure AOk (n : Nat) (A : Around) : Prop where
  hh : A.handled = none
  dp : A.depth + n ≤ 900
  un : A.units + 20 * n + 20 ≤ 9000
  fs : ∃ l, A.frames = some l
  gd : A.guards = some []
theorem AOk.deeper {n : Nat} {A : Around} {env : Env} (h : AOk (n + 1) A) : AOk n (A.deeper env) := by
  obtain ⟨l, e⟩ := h.fs
  refine ⟨h.hh, ?_, ?_, ⟨env :: l, by show A.frames.map _ = _; rw [e]; rfl⟩, h.gd⟩
  · have := h.dp; show A.depth + 1 + n ≤ 900; omega
  · have := h.un; show A.units + 3 + 20 * n + 20 ≤ 9000; omega
theorem AOk.less {n : Nat} {A : Around} (h : AOk (n + 1) A) : AOk n A := ⟨h.hh, by have := h.dp; omega, by have := h.un; omega, h.fs, h.gd⟩

theorem St.lim (I : St c fs ld s) : s.heap.NoLimit := I.ok.lim.keeps I.base

structure EnvIs (env : Env) (L : Addr) (sc : Scope) (cd : Value) : Prop where
  sc : env.scope = sc
  loc : env.locals = L
  gl : env.globals = mainGlobals
  bl : env.builtins = builtinsNs
  code : env.code = cd

/-- a call of one of the text's defs without cells -/
theorem callF {A : Around} {f : Addr} {sl : Array (Option Value)} {fd : FuncData} {body : List Stmt} {args : Args} {binds : List (Str × Value)} {n : Nat} {Q : Value → Shared → Prop}
    (I : St c fs ld s) (hA : AOk (n + 1) A) (hf : c.hb.get? f = some ⟨.type "function", none, .func fd, sl⟩) (hcd : c.hb.CodeRec fd.code fd.qualname)
    (hb : fd.body = .stmts body) (hbind : BindsTo s fd args binds) (hcell : ∀ x ∈ fd.scope.names, x.2 ≠ .cell) (hloc : ∀ x ∈ binds, fd.scope.names.lookup x.1 = some .local)
    (hco : fd.scope.isCoroutine = false) (hgen : fd.scope.isGenerator = false) (hk : fd.scope.kind = .function) (hgl : fd.globals = mainGlobals) (hbl : fd.builtins = builtinsNs)
    (h : ∀ L s' env, EnvIs env L fd.scope fd.code → env.cells = fd.closure → St c ((L, fun x => binds.reverse.lookup x) :: fs) ld s' → AOk n (A.deeper env) →
      wpAny c.MD (A.deeper env) (execs body env) (fun fl s'' => Q (match fl with | .ret v => v | _ => .none) s'') (fun _ _ => False) s') :
    wpAny c.MD A (call (.ref f) args.pos args.kw) Q (fun _ _ => False) s := by
  refine wpAny_call ?_
  refine codeAny_call_def (fd := fd) (body := body) (binds := binds) (by have := hA.dp; show A.depth < 1000; omega) (I.base _ _ hf) rfl I.lim (hcd.keeps I.base) hb hbind hcell hloc (fun h₀ hns hk' => ?_) hco hgen hk
  exact wpAny_mono (h _ _ _ ⟨rfl, rfl, hgl, hbl, rfl⟩ rfl (I.newFr rfl hns hk') hA.deeper) (fun fl s' x => x) (fun _ _ x => x.elim)
end

/-! part F2 -/
abbrev NoE : Value → Shared → Prop := fun _ _ => False

section
variable {c : Cx} {fs fs' : Fs} {ld ld' : Ld} {s : Shared} {A : Around} {env : Env} {L : Addr} {m : Str → Option Value} {sc : Scope} {cd : Value}

theorem kl {α : Type} {l : List (Nat × α)} {a b : Nat} {o : α} (h : l.lookup a = some o) (hb : Nat.beq a b = false) : (l.filter fun x => !(Nat.beq x.1 b)).lookup a = some o := by
  induction l with
  | nil => cases h
  | cons x l ih =>
    obtain ⟨k, v⟩ := x
    rw [List.lookup_cons] at h
    by_cases q : a == k
    · have e := beq_iff_eq.mp q
      subst e
      rw [List.filter_cons, if_pos (by rw [hb]; rfl), List.lookup_cons, q]
      rw [q] at h; exact h
    · have q' : (a == k) = false := by simpa using q
      rw [q'] at h
      rw [List.filter_cons]
      split
      · rw [List.lookup_cons, q']; exact ih h
      · exact ih h

/-- an object of the top -/
theorem kg (ok : c.Ok) {a : Addr} {o : Obj} (h : (frag.heap_1 c.w.params).lookup a = some o) (hb : Nat.beq a PT = false) : c.hb.get? a = some o := ok.kin a o (kl h hb)

theorem rStr {x : Str} {k : Nat} {pos : Pos} {Q : Value → Shared → Prop} (I : St c fs ld s) (h : ∀ t s', St c fs ld s' → Q (.str x t) s') : wpAny c.MD A (eval (.Constant (.str x) k pos) env) Q NoE s := wpAny_Constant_str (h _ _ I.tok)
theorem rInt {x : Int} {k : Nat} {pos : Pos} {Q : Value → Shared → Prop} (I : St c fs ld s) (h : ∀ t s', St c fs ld s' → Q (.int x t) s') : wpAny c.MD A (eval (.Constant (.int x) k pos) env) Q NoE s := wpAny_Constant_int (h _ _ I.tok)

theorem rLoc {x : Str} {pos : Pos} {v : Value} {Q : Value → Shared → Prop} (I : St c ((L, m) :: fs) ld s) (N : EnvIs env L sc cd) (hk : sc.kind = .function) (hl : sc.names.lookup x = some .local) (hd : (x == ("__debug__" : Str)) = false)
    (hv : m x = some v) (h : Q v s) : wpAny c.MD A (eval (.Name x pos) env) Q NoE s :=
  wpAny_Name (wpAny_loadName_local (by rw [N.sc]; exact hk) (by unfold Env.kindOf; rw [N.sc]; exact hl) (by rw [N.loc]; exact I.fr _ (.head _)) hv h) hd

def upd (m : Str → Option Value) (x : Str) (v : Value) : Str → Option Value := fun y => if y = x then some v else m y
theorem upd_same {m : Str → Option Value} {x : Str} {v : Value} : upd m x v x = some v := if_pos rfl
theorem upd_other {m : Str → Option Value} {x y : Str} {v v' : Value} (hn : decide (y = x) = false) (h : m y = some v') : upd m x v y = some v' := (if_neg (of_decide_eq_false hn)).trans h

theorem rStore {x : Str} {v : Value} {Q : Unit → Shared → Prop} (I : St c ((L, m) :: fs) ld s) (N : EnvIs env L sc cd) (hk : sc.kind = .function) (hl : sc.names.lookup x = some .local)
    (h : ∀ s', St c ((L, upd m x v) :: fs) ld s' → Q () s') : wpAny c.MD A (storeName env x v) Q NoE s := by
  have hL := N.loc
  subst hL
  refine wpAny_storeName_local (by unfold Env.kindOf; rw [N.sc]; exact hl) (I.fr _ (.head _)) (fun h' hn hs => h _ (I.setFr hn fun b o hb e => hs.extBut b o hb e)) ?_
  rw [N.sc, hk]; rfl

theorem rGlob {x : Str} {pos : Pos} {v : Value} {Q : Value → Shared → Prop} (I : St c fs ld s) (N : EnvIs env L sc cd) (hk : sc.kind = .function) (hx : sc.names.lookup x = some .globalImplicit) (hd : (x == ("__debug__" : Str)) = false)
    (hv : c.mg x = some v) (h : Q v s) : wpAny c.MD A (eval (.Name x pos) env) Q NoE s :=
  Name_function_global (by rw [N.sc]; exact hk) (by unfold Env.kindOf; rw [N.sc]; exact hx) (loadGlobal_global (by rw [N.gl]; exact I.ok.g.keeps I.base) hv h) hd
theorem rBuilt {x : Str} {pos : Pos} {v : Value} {Q : Value → Shared → Prop} (I : St c fs ld s) (N : EnvIs env L sc cd) (hk : sc.kind = .function) (hx : sc.names.lookup x = some .globalImplicit) (hd : (x == ("__debug__" : Str)) = false)
    (hv : c.mg x = none) (hv2 : c.mb x = some v) (h : Q v s) : wpAny c.MD A (eval (.Name x pos) env) Q NoE s :=
  Name_function_global (by rw [N.sc]; exact hk) (by unfold Env.kindOf; rw [N.sc]; exact hx) (loadGlobal_builtin (by rw [N.gl]; exact I.ok.g.keeps I.base) hv (by rw [N.bl]; exact I.ok.b.keeps I.base) hv2 h) hd

/-- a tuple, a list display: the new object stands at the ledger's head -/
theorem rTup {elts : List PySem.Expr} {k : Nat} {pos : Pos} {Q : Value → Shared → Prop}
    (h : wpAny c.MD A (spliced (backTo pos (starEach elts env))) (fun vs s₁ => ∃ fs ld, St c fs ld s₁ ∧ vs.length ≤ sizeLine ∧
      ∀ a s', St c fs ((a, { cls := .type "tuple", data := .seq vs.toArray }) :: ld) s' → Q (.ref a) s') NoE s) : wpAny c.MD A (eval (.Tuple elts k pos) env) Q NoE s := by
  refine wpAny_Tuple (wpAny_mono h (fun vs s₁ x => ?_) fun _ _ x => x)
  obtain ⟨fs, ld, I, hz, h⟩ := x
  exact ⟨hz, h _ _ (I.new rfl (Heap.get?_push_size _ rfl) fun b o e => Heap.get?_push_of_some _ e)⟩
theorem rList {elts : List PySem.Expr} {pos : Pos} {Q : Value → Shared → Prop}
    (h : wpAny c.MD A (spliced (backTo pos (starEach elts env))) (fun vs s₁ => ∃ fs ld, St c fs ld s₁ ∧ vs.length ≤ sizeLine ∧
      ∀ a s', St c fs ((a, { cls := .type "list", data := .seq vs.toArray }) :: ld) s' → Q (.ref a) s') NoE s) : wpAny c.MD A (eval (.List elts pos) env) Q NoE s := by
  refine wpAny_List (wpAny_mono h (fun vs s₁ x => ?_) fun _ _ x => x)
  obtain ⟨fs, ld, I, hz, h⟩ := x
  exact ⟨hz, h _ _ (I.new rfl (Heap.get?_push_size _ rfl) fun b o e => Heap.get?_push_of_some _ e)⟩

/-- a call of a top's def with plain arguments: the callee, the arguments, the call -/
theorem rCallRef {f : Addr} {sl : Array (Option Value)} {fd : FuncData} {first : List Value} {e : PySem.Expr} {rest : List PySem.Expr} {pos : Pos} {Q : Value → Shared → Prop}
    (hf : c.hb.get? f = some ⟨.type "function", none, .func fd, sl⟩)
    (h : wpAny c.MD A (spliced (backTo pos (starEach (e :: rest) env))) (fun vs s₁ => (∃ fs ld, St c fs ld s₁) ∧ wpAny c.MD A (call (.ref f) (first ++ vs) []) Q NoE s₁) NoE s)
    (he : starEach (e :: rest) env = (false, eval e env) :: starEach rest env := by rfl) :
    wpAny c.MD A (callWith pos (.ref f) first (backTo pos (starEach (e :: rest) env)) (backToKw pos (keywordEach [] env))) Q NoE s := by
  rw [he] at h ⊢
  refine callWith_function (o := ⟨.type "function", none, .func fd, sl⟩) (fd := fd) (evalArgs_plain (wpAny_mono h (fun vs s₁ x => ?_) fun _ _ x => x))
  obtain ⟨⟨fs, ld, I⟩, x⟩ := x
  exact ⟨⟨I.base _ _ hf, rfl⟩, x⟩

theorem mg_law_prices (ok : c.Ok) : c.mg (Str.ofString "_law_prices") = some (.ref 296) := ok.mgv _ _ (by kernel_rfl)
theorem mg_get_name_info (ok : c.Ok) : c.mg (Str.ofString "_get_name_info") = some (.ref 68) := ok.mgv _ _ (by kernel_rfl)
theorem mg_UNKNOWN (ok : c.Ok) : c.mg (Str.ofString "UNKNOWN") = some (.ref 61) := ok.mgv _ _ (by kernel_rfl)
theorem mg_Headers (ok : c.Ok) : c.mg (Str.ofString "Headers") = some (.ref 285) := ok.mgv _ _ (by kernel_rfl)
theorem mg_law_adds (ok : c.Ok) : c.mg (Str.ofString "_law_adds") = some (.ref 313) := ok.mgv _ _ (by kernel_rfl)
theorem mg_law_settled (ok : c.Ok) : c.mg (Str.ofString "_law_settled") = some (.ref 318) := ok.mgv _ _ (by kernel_rfl)
theorem mg_law_most (ok : c.Ok) : c.mg (Str.ofString "_law_most") = some (.ref 301) := ok.mgv _ _ (by kernel_rfl)
theorem mg_law_chains (ok : c.Ok) : c.mg (Str.ofString "_law_chains") = some (.ref 308) := ok.mgv _ _ (by kernel_rfl)
theorem mg_Accumulator (ok : c.Ok) : c.mg (Str.ofString "_Accumulator") = some (.ref 148) := ok.mgv _ _ (by kernel_rfl)
theorem mg_name_disallowed_re (ok : c.Ok) : c.mg (Str.ofString "_name_disallowed_re") = some (.ref 157) := ok.mgv _ _ (by kernel_rfl)
theorem mg_value_disallowed_re (ok : c.Ok) : c.mg (Str.ofString "_value_disallowed_re") = some (.ref 162) := ok.mgv _ _ (by kernel_rfl)
theorem mg_EMPTY (ok : c.Ok) : c.mg (Str.ofString "EMPTYSTRING") = some (.str (Str.ofString "") 331) := ok.mgv _ _ (by kernel_rfl)
theorem mg_str (ok : c.Ok) : c.mg (Str.ofString "str") = none := ok.mgv _ _ (by kernel_rfl)
theorem mb_str (ok : c.Ok) : c.mb (Str.ofString "str") = some (.type "str") := (ok.mbv _ (by decide)).trans (by kernel_rfl)
theorem mg_list (ok : c.Ok) : c.mg (Str.ofString "list") = none := ok.mgv _ _ (by kernel_rfl)
theorem mb_list (ok : c.Ok) : c.mb (Str.ofString "list") = some (.type "list") := (ok.mbv _ (by decide)).trans (by kernel_rfl)
theorem mg_type (ok : c.Ok) : c.mg (Str.ofString "type") = none := ok.mgv _ _ (by kernel_rfl)
theorem mb_type (ok : c.Ok) : c.mb (Str.ofString "type") = some (.type "type") := (ok.mbv _ (by decide)).trans (by kernel_rfl)
theorem mg_range (ok : c.Ok) : c.mg (Str.ofString "range") = none := ok.mgv _ _ (by kernel_rfl)
theorem mb_range (ok : c.Ok) : c.mb (Str.ofString "range") = some (.type "range") := (ok.mbv _ (by decide)).trans (by kernel_rfl)
theorem mg_super (ok : c.Ok) : c.mg (Str.ofString "super") = none := ok.mgv _ _ (by kernel_rfl)
theorem mb_super (ok : c.Ok) : c.mb (Str.ofString "super") = some (.type "super") := (ok.mbv _ (by decide)).trans (by kernel_rfl)
theorem mg_max (ok : c.Ok) : c.mg (Str.ofString "max") = none := ok.mgv _ _ (by kernel_rfl)
theorem mb_max (ok : c.Ok) : c.mb (Str.ofString "max") = some (.builtin "max") := (ok.mbv _ (by decide)).trans (by kernel_rfl)
theorem mg_min (ok : c.Ok) : c.mg (Str.ofString "min") = none := ok.mgv _ _ (by kernel_rfl)
theorem mb_min (ok : c.Ok) : c.mb (Str.ofString "min") = some (.builtin "min") := (ok.mbv _ (by decide)).trans (by kernel_rfl)
theorem mg_len (ok : c.Ok) : c.mg (Str.ofString "len") = none := ok.mgv _ _ (by kernel_rfl)
theorem mb_len (ok : c.Ok) : c.mb (Str.ofString "len") = some (.builtin "len") := (ok.mbv _ (by decide)).trans (by kernel_rfl)
theorem mg_sum (ok : c.Ok) : c.mg (Str.ofString "sum") = none := ok.mgv _ _ (by kernel_rfl)
theorem mb_sum (ok : c.Ok) : c.mb (Str.ofString "sum") = some (.builtin "sum") := (ok.mbv _ (by decide)).trans (by kernel_rfl)
end

local macro_rules | `(tactic| walk_at "lk") => `(tactic| first
  | (with_reducible assumption)
  | (with_reducible exact upd_same)
  | ((with_reducible refine upd_other (by decide) ?_); walk_at "lk")
  | rfl)
local macro_rules | `(tactic| walk_at "gl") => `(tactic| first
  | (with_reducible exact mg_law_chains (by assumption)) | (with_reducible exact mg_law_adds (by assumption)) | (with_reducible exact mg_law_settled (by assumption)) | (with_reducible exact mg_law_most (by assumption)) | (with_reducible exact mg_law_prices (by assumption))
  | (with_reducible exact mg_get_name_info (by assumption)) | (with_reducible exact mg_UNKNOWN (by assumption)) | (with_reducible exact mg_Headers (by assumption)) | (with_reducible exact mg_Accumulator (by assumption)) | (with_reducible exact mg_name_disallowed_re (by assumption)) | (with_reducible exact mg_value_disallowed_re (by assumption)) | (with_reducible exact mg_EMPTY (by assumption)))
local macro_rules | `(tactic| walk_at "bl0") => `(tactic| first
  | (with_reducible exact mg_str (by assumption)) | (with_reducible exact mg_list (by assumption)) | (with_reducible exact mg_type (by assumption)) | (with_reducible exact mg_range (by assumption)) | (with_reducible exact mg_super (by assumption)) | (with_reducible exact mg_max (by assumption)) | (with_reducible exact mg_min (by assumption)) | (with_reducible exact mg_len (by assumption)) | (with_reducible exact mg_sum (by assumption)))
local macro_rules | `(tactic| walk_at "bl1") => `(tactic| first
  | (with_reducible exact mb_str (by assumption)) | (with_reducible exact mb_list (by assumption)) | (with_reducible exact mb_type (by assumption)) | (with_reducible exact mb_range (by assumption)) | (with_reducible exact mb_super (by assumption)) | (with_reducible exact mb_max (by assumption)) | (with_reducible exact mb_min (by assumption)) | (with_reducible exact mb_len (by assumption)) | (with_reducible exact mb_sum (by assumption)))
local macro_rules | `(tactic| walk_at "st") => `(tactic| first
  | (with_reducible refine wpAny_execs_cons ?_)
  | ((with_reducible refine wpAny_execs_nil ?_); try dsimp only)
  | (with_reducible refine wpAny_Return_some ?_)
  | ((with_reducible refine wpAny_Assign_Name (hs := ?hs) ?_); (case hs => rfl))
  | (with_reducible refine wpAny_If ?_)
  | (with_reducible refine wpAny_IfExp ?_)
  | ((with_reducible refine rStr (by assumption) ?_); intro t' s' I'; try dsimp only)
  | ((with_reducible refine rInt (by assumption) ?_); intro t' s' I'; try dsimp only)
  | ((with_reducible refine wpAny_Constant_none ?_); try dsimp only)
  | ((with_reducible refine wpAny_Constant_bool ?_); try dsimp only)
  | ((with_reducible refine rLoc (v := ?v) (by assumption) (by assumption) ?k2 ?k3 ?k4 ?k5 ?_); (case k2 => rfl); (case k3 => rfl); (case k4 => decide); (case k5 => walk_at "lk"); try dsimp only)
  | ((with_reducible refine rGlob (v := ?v) (by assumption) (by assumption) ?k1 ?k2 ?k4 ?k5 ?_); (case k1 => rfl); (case k2 => rfl); (case k4 => decide); (case k5 => walk_at "gl"); try dsimp only)
  | ((with_reducible refine rBuilt (v := ?v) (by assumption) (by assumption) ?k1 ?k2 ?k4 ?k5 ?k7 ?_); (case k1 => rfl); (case k2 => rfl); (case k4 => decide); (case k5 => walk_at "bl0"); (case k7 => walk_at "bl1"); try dsimp only)
  | ((with_reducible refine rStore (by assumption) (by assumption) ?k2 ?k3 ?_); (case k2 => rfl); (case k3 => rfl); intro s' I'; try dsimp only)
  | (with_reducible refine rTup ?_)
  | (with_reducible refine rList ?_)
  | (with_reducible refine wpAny_BinOp ?_)
  | ((with_reducible refine wpAny_isTrue_Compare1 (hm := ?hm) ?_); (case hm => with_unfolding_all rfl))
  | ((with_reducible refine wpAny_Compare1 (hm := ?hm) ?_); (case hm => with_unfolding_all rfl))
  | (with_reducible refine wpAny_isTrue_BoolOp ?_)
  | (with_reducible refine wpAny_allTrue_Or_cons ?_)
  | (with_reducible refine wpAny_allTrue_And_cons ?_)
  | ((with_reducible refine wpAny_allTrue_Or_nil ?_); try dsimp only)
  | ((with_reducible refine wpAny_allTrue_And_nil ?_); try dsimp only)
  | (with_reducible refine wpAny_Call_Name_kw ?_)
  | ((with_reducible refine wpAny_items_cons (he := ?he) ?_); (case he => rfl))
  | ((with_reducible refine wpAny_items_nil ?_); try dsimp only))

/-! part F4 -/
section
variable {c : Cx} {fs fs' : Fs} {ld ld' : Ld} {s : Shared} {A : Around} {env : Env} {L : Addr} {m : Str → Option Value} {sc : Scope} {cd : Value}

theorem St.kx (I : St c fs ld s) : c.K.In s.heap := fun a o h => I.base _ _ (I.ok.kin a o h)

section
variable {prog : Program} {w : World} {E : Value → Shared → Prop} {K : Frag} {x C : Addr} {ox : Obj} {od : Option Obj}
theorem method_bi {name : Str} {pl : Sem Bool} {id : String} {tf : Value} {Q : Value × List Value → Shared → Prop} (X : K.In s.heap) (I : InstAt s.heap x ox C od) {ga : String} (hga : findIn K (.ref C) "__getattribute__" = some (some (.builtin ga))) (hcan : (Manifest.canonical ga != "object.__getattribute__") = false) (hk : findIn K (.ref C) "__getattr__" = some none)
    (hf : findIn K (.ref C) name = some (some (.builtin id))) (ht : typeOf (.builtin id) = pure tf) (htf : (tf != .type "function" && tf != .type "method_descriptor" && tf != .type "wrapper_descriptor") = false) (hs : shadowIn od name = some false) (h : Q (.builtin id, [.ref x]) s) :
    wpAny (model prog w) A (getMethod (.ref x) name pl) Q E s := by
  unfold getMethod specialOf
  refine wpAny_bind (wpAny_bind (I.type.here ((looks_findIn X hga).here ?_)))
  dsimp only
  rw [hcan, if_neg (by decide)]
  refine wpAny_bind (wpAny_bind (I.type.here ((looks_findIn X hk).here ?_)))
  refine wpAny_bind (wpAny_bind (I.type.here ((looks_findIn X hf).here (wpAny_bind (wpAny_of_eq ht ?_)))))
  rw [htf, if_neg (by decide)]
  refine wpAny_bind (wpAny_loadPart I.at_ ?_)
  have hd := I.dict
  cases e : ox.dict with
  | none => exact wpAny_bind (wpAny_rule (wpAny_pure h))
  | some dx =>
    cases od with
    | none => rw [e] at hd; exact hd.elim
    | some o =>
      rw [e] at hd
      obtain ⟨r, a, b⟩ := Option.map_eq_some_iff.mp hs
      refine wpAny_bind (wpAny_bind (wpAny_loadPart hd ?_))
      rw [nsLook_of a]
      refine wpAny_pure ?_
      rw [b]
      exact wpAny_bind (wpAny_rule (wpAny_pure h))

theorem check_own {M : Model} {i owner n : String} {self : Value} {rest : List Value} {kw : List (Str × Value)} {Q : Unit → Shared → Prop}
    (hk : builtinKind i = some .slot ∨ builtinKind i = some .method) (hs : splitId i = some (owner, n)) (hi : Looks M s.heap (isInstance self (.type owner)) true) (ha : argsOk i ⟨self :: rest, kw⟩) (q : Q () s) :
    wpAny M A (checkBuiltinCall i ⟨self :: rest, kw⟩) Q E s := by
  rcases hk with hk | hk
  · exact check_slot hk hs hi ha q
  simp only [checkBuiltinCall, hk, hs]
  refine wpAny_bind (hi.here ?_)
  simp only [Bool.not_true, Bool.false_eq_true, if_false]
  cases hsig : Manifest.signature? i with
  | none => exact wpAny_pure q
  | some sig =>
    simp only [argsOk, hsig] at ha
    have h2 : Bind.checkArgs i sig ⟨self :: rest, kw⟩ = pure () := ha
    show wpAny M A (Bind.checkArgs i sig ⟨self :: rest, kw⟩) Q E s
    rw [h2]; exact wpAny_pure q

/-- a slot or method of a builtin type, called on an object of a class of the text -/
theorem call_own {id owner n : String} {Bi : Builtin} {rest : List Value} {Q : Value → Shared → Prop} (X : K.In s.heap) (I : InstAt s.heap x ox C od) (hp : plainId id = true) (he : entryFor table id = some Bi)
    (hk : builtinKind id = some .slot ∨ builtinKind id = some .method) (hs : splitId id = some (owner, n)) (hm : mroIn K C (.type owner) = some true) (ha : argsOk id ⟨.ref x :: rest, []⟩)
    (h : wpAny (model prog w) A.in1 (Bi ⟨.ref x :: rest, []⟩) (fun fin s' => ∃ v, fin = .done (.ret v) ∧ Q v s') E s) : wpAny (model prog w) A (call (.builtin id) (.ref x :: rest)) Q E s := by
  refine wpAny_call (codeAny_call_builtin hp he (check_own hk hs (I.type.andThen (looks_mroIn X hm)) ha (wpAny_mono h (fun fin s' z => ?_) fun _ _ z => z)))
  obtain ⟨v, rfl, hq⟩ := z
  exact hq
end

def PDict (od : Obj) : Prop := ∀ name : Str, (name == ("_initial_size" : Str)) = false → lookIn name od = some none
abbrev pileObj (Dp : Addr) (items : Array Value) (e : Nat) : Obj := { cls := .ref 148, dict := some Dp, data := .seq items e }
abbrev tup (vs : Array Value) : Obj := { cls := .type "tuple", data := .seq vs }

variable {Lp Dp : Addr} {od : Obj} {items : Array Value} {e : Nat} {n : Nat} {Q : Value → Shared → Prop}

theorem St.inst (I : St c fs ((Lp, pileObj Dp items e) :: ld) s) (hD : (Dp, od) ∈ ld) : InstAt s.heap Lp (pileObj Dp items e) 148 (some od) :=
  ⟨I.ob _ (.head _), rfl, rfl, I.ob _ (.tail _ hD)⟩
theorem PDict.sh (h : PDict od) {name : Str} (hn : (name == ("_initial_size" : Str)) = false) : shadowIn (some od) name = some false := by
  show (lookIn name od).map _ = _
  rw [h name hn]; rfl

theorem fa_ga : findIn c.K (.ref 148) "__getattribute__" = some (some (.builtin "list.__getattribute__")) := by kernel_rfl
theorem fa_gt : findIn c.K (.ref 148) "__getattr__" = some none := by kernel_rfl
theorem fa_append : findIn c.K (.ref 148) "append" = some (some (.builtin "list.append")) := by kernel_rfl
theorem fa_push : findIn c.K (.ref 148) "push" = some (some (.ref 92)) := by kernel_rfl
theorem fa_pop : findIn c.K (.ref 148) "pop" = some (some (.ref 108)) := by kernel_rfl
theorem fa_pc : findIn c.K (.ref 148) "part_count" = some (some (.ref 145)) := by kernel_rfl
theorem fa_list : mroIn c.K 148 (.type "list") = some true := by kernel_rfl

theorem rUpdSeq {M : Model} {E : Value → Shared → Prop} {a : Addr} {cl : Value} {d : Option Addr} {xs : Array Value} {k : Nat} {sl : Array (Option Value)} {f : Array Value → Array Value} {Q : Unit → Shared → Prop}
    (I : St c fs ((a, ⟨cl, d, .seq xs k, sl⟩) :: ld) s) (hz : (f xs).size ≤ sizeLine) (h0 : xs.size ≤ sizeLine) (h : ∀ s' k', St c fs ((a, ⟨cl, d, .seq (f xs) k', sl⟩) :: ld) s' → Q () s') : wpAny M A (updateSeq a f) Q E s := by
  have ho := I.ob _ (.head _)
  exact wpAny_updateSeq ho rfl (h _ _ (I.setOb (tk := s.toks) (Heap.get?_update_self (Obj.mapSeq f) ho rfl) fun b x hb hx => (Heap.SameBut.update ..).extBut b x hb hx)) h0 (Nat.le_succ_of_le hz)

theorem rExpr {x : PySem.Expr} {pos : Pos} {Q : Flow → Shared → Prop} (N : EnvIs env L sc cd) (hk : (sc.kind == .module) = false) (hs : swapsWith x none pos.line env = pure false)
    (h : wpAny c.MD A (eval x env) (fun _ => Q .next) NoE s) : wpAny c.MD A (exec (.Expr x pos) env) Q NoE s :=
  wpAny_Expr_any h (by unfold interactive; rw [N.sc, hk]; rfl) hs

theorem append_own {v : Value} (I : St c fs ((Lp, pileObj Dp items e) :: ld) s) (hD : (Dp, od) ∈ ld) (hz : items.size < 1000)
    (h : ∀ s' e', St c fs ((Lp, pileObj Dp (items.push v) e') :: ld) s' → Q .none s') : wpAny c.MD A (call (.builtin "list.append") [.ref Lp, v]) Q NoE s := by
  refine call_own (owner := "list") (n := "append") I.kx (I.inst hD) slot_list_append.plain entry_list_append (.inr (by decide +kernel)) (by decide +kernel) fa_list (args_list_append _ _) ?_
  show wpAny _ _ (updateSeq Lp (·.push v) >>= fun _ => ret .none) _ _ s
  exact wpAny_bind (rUpdSeq I (by rw [Array.size_push]; exact Nat.le_trans hz (by decide)) (Nat.le_trans (Nat.le_of_lt hz) (by decide)) fun s' k' I' => wpAny_pure ⟨.none, rfl, h _ _ I'⟩)

set_option maxRecDepth 100000 in
theorem push_ct (ok : c.Ok) (I : St c fs ((Lp, pileObj Dp items e) :: ld) s) (hA : AOk (n + 1) A) (hD : (Dp, od) ∈ ld) (hz : items.size < 1000) (hp : PDict od) {a b : Value}
    (h : ∀ s' tp e', St c fs ((Lp, pileObj Dp (items.push (.ref tp)) e') :: (tp, tup #[a, b]) :: ld) s' → Q .none s') :
    wpAny c.MD A (call (.ref 92) [.ref Lp, a, b] []) Q NoE s := by
  refine callF (args := ⟨_, _⟩) I hA (kg ok rfl rfl) ⟨_, _, _, _, rfl, kg ok rfl rfl, rfl, rfl⟩ rfl (BindsTo.of_eq rfl) (by decide) (locs rfl) rfl rfl rfl rfl rfl ?_
  intro L s' env N hcells I' hA'
  repeat (walk_at "st")
  refine rExpr (by assumption) rfl rfl ?_
  refine MethodCall_ ?_
  repeat (walk_at "st")
  refine method_bi I'.kx (I'.inst hD) fa_ga canon_list_getattribute fa_gt fa_append type_list_append rfl (hp.sh rfl) ?_
  refine callWith_method1 ?_
  repeat (walk_at "st")
  refine ⟨_, _, by assumption, Nat.le_of_ble_eq_true rfl, ?_⟩
  intro tp s1 I1
  repeat (walk_at "st")
  refine append_own (ld := (tp, tup #[a, b]) :: ld) (I1.perm (List.Perm.swap _ _ _)) (.tail _ hD) hz ?_
  intro s2 e' I2
  repeat (walk_at "st")
  exact h _ _ _ I2.dropFr
end

/-! part F5 -/
section
variable {c : Cx} {fs fs' : Fs} {ld ld' : Ld} {s : Shared} {A : Around} {env : Env} {L : Addr} {m : Str → Option Value} {sc : Scope} {cd : Value}

/-- a call of one of the text's defs, with the place of the code kept in sight -/
theorem callFAt {A : Around} {f : Addr} {sl : Array (Option Value)} {fd : FuncData} {body : List Stmt} {args : Args} {binds : List (Str × Value)} {n : Nat} {Q : Value → Shared → Prop}
    (I : St c fs ld s) (hA : AOk (n + 1) A) (hf : c.hb.get? f = some ⟨.type "function", none, .func fd, sl⟩) (hcd : c.hb.CodeRec fd.code fd.qualname)
    (hb : fd.body = .stmts body) (hbind : BindsTo s fd args binds) (hcell : ∀ x ∈ fd.scope.names, x.2 ≠ .cell) (hloc : ∀ x ∈ binds, fd.scope.names.lookup x.1 = some .local)
    (hco : fd.scope.isCoroutine = false) (hgen : fd.scope.isGenerator = false) (hk : fd.scope.kind = .function) (hgl : fd.globals = mainGlobals) (hbl : fd.builtins = builtinsNs)
    (h : ∀ L s' env, EnvIs env L fd.scope fd.code → env.cells = fd.closure → env.func = some f → St c ((L, fun x => binds.reverse.lookup x) :: fs) ld s' → AOk n (A.deeper env) →
      _root_.PySem.wpAt c.MD (A.deeper env) (.func body env) (execs body env) (fun fl s'' => Q (match fl with | .ret v => v | _ => .none) s'') NoE s') :
    wpAny c.MD A (call (.ref f) args.pos args.kw) Q NoE s := by
  refine wpAny_call ?_
  refine ks_codeAny_call_defAt (fd := fd) (body := body) (binds := binds) (by have := hA.dp; show A.depth < 1000; omega) (I.base _ _ hf) rfl I.lim (hcd.keeps I.base) hb hbind hcell hloc (fun h₀ hns hk' => ?_) hco hgen hk
  exact ks_wpAt_mono (h _ _ _ ⟨rfl, rfl, hgl, hbl, rfl⟩ rfl rfl (I.newFr rfl hns hk') hA.deeper) (fun fl s' x => x) (fun _ _ x => x.elim)

abbrev superO (Lp : Addr) : Obj := { cls := .type "super", dict := none, data := .fields #[.ref 148, .ref Lp, .ref 148], slots := #[] }
variable {Lp Dp : Addr} {od : Obj} {items : Array Value} {e : Nat} {n : Nat} {Q : Value → Shared → Prop}

theorem mainFile : (PySem.Challenge.rw_wk0037_01.row.prog.main.file == Str.ofString "/claim/cut.py") = true := by kernel_rfl
theorem mainTop : (List.lookup (Str.ofString "super") PySem.Challenge.rw_wk0037_01.row.prog.main.scope.names).isSome = false := by kernel_rfl
theorem clsA : clsIn c.K 148 = clsIn c.K 148 ∧ (clsIn c.K 148).isSome = true := ⟨rfl, by kernel_rfl⟩

theorem superBase {body : List Stmt} {p0 p1 : Pos} {attr : Str} {whole : Sem Value} {f cc : Addr} {sl cs : Array (Option Value)} {fd : FuncData} {ar : Arg} {vs : Array Value} {tf : Tok} {cl : Value} {cdd : Option Addr}
    (I : St c ((L, m) :: fs) ((Lp, pileObj Dp items e) :: ld) s) (N : EnvIs env L sc (.ref cc)) (hce : env.cells = [(("__class__" : Str), 72)]) (hfu : env.func = some f)
    (hk : sc.kind = .function) (hks : sc.names.lookup ("super" : Str) = some .globalImplicit) (hkc : sc.names.lookup ("__class__" : Str) = some .free) (hka : sc.names.lookup ar.arg = some .local) (hat : (attr == ("__class__" : Str)) = false)
    (hf : c.hb.get? f = some ⟨.type "function", none, .func fd, sl⟩) (hp : (fd.params.posonlyargs ++ fd.params.args).head? = some ar) (hv : m ar.arg = some (.ref Lp))
    (hcc : c.hb.get? cc = some ⟨cl, cdd, .fields vs, cs⟩) (hvs : vs[2]? = some (.str "/claim/cut.py" tf))
    (h : ∀ so s', St c ((L, m) :: fs) ((Lp, pileObj Dp items e) :: (so, superO Lp) :: ld) s' → Q (.ref so) s') :
    _root_.PySem.wpAt c.MD A (.func body env) (attributeBase (.Call (.Name "super" p0) [] [] p1) attr env whole) Q NoE s := by
  have hL := N.loc
  subst hL
  obtain ⟨cdD, hD⟩ := Option.isSome_iff_exists.mp (clsA (c := c)).2
  obtain ⟨oD, hD1, hD2⟩ : ∃ oD, s.heap.get? 148 = some oD ∧ oD.data = .cls cdD := by
    unfold clsIn at hD
    split at hD
    · rename_i c d cd' sl ho
      cases hD
      exact ⟨_, I.kx _ _ ho, rfl⟩
    · cases hD
  refine ks_wpAt_super_base (env := env) (by unfold Env.kindOf; rw [N.sc]; exact hks) (by unfold Env.kindOf; rw [N.sc]; exact hkc) hat hfu (I.base _ _ hf) rfl hp N.code (I.base _ _ hcc) rfl hvs mainFile mainTop ?_
  refine ks_loadName_global (by rw [N.sc]; exact hk) (by unfold Env.kindOf; rw [N.sc]; exact hks) (loadGlobal_builtin (env := env) (by rw [N.gl]; exact I.ok.g.keeps I.base) (mg_super I.ok) (by rw [N.bl]; exact I.ok.b.keeps I.base) (mb_super I.ok) ⟨rfl, ?_⟩)
  refine wpAny_loadName_free (by rw [N.sc]; exact hk) (by unfold Env.kindOf; rw [N.sc]; exact hkc) (by rw [hce]; rfl) ⟨_, I.base _ _ (kg (o := ⟨.type "cell", none, .cell (some (.ref 148)), #[]⟩) I.ok rfl rfl), rfl⟩ ?_
  refine wpAny_loadName_local (by rw [N.sc]; exact hk) (by unfold Env.kindOf; rw [N.sc]; exact hka) (I.fr _ (.head _)) hv ?_
  obtain ⟨hh, g, d, t, os⟩ := s
  refine ks_wpAny_isType_cls hD1 hD2 ⟨rfl, ?_⟩
  refine ks_wpAny_call_super hD1 hD2 (I.ob _ (.head _)) rfl (fun c e => by cases e) (looks_mroIn I.kx (by kernel_rfl)) (fun h' e k => ?_)
  refine h _ _ ((I.new (tk := t) rfl e k).perm (List.Perm.swap _ _ _))

section
variable {prog : Program} {w : World} {M : Model} {E : Value → Shared → Prop} {id owner : String} {x C D so : Addr}
theorem nac {name : String} (ho : (kfb_private% "ownerAndName") id = (owner, name)) : (kfb_private% "nameAndClass") (.builtin id) = pure ((Str.ofString name), .type owner) := by
  show (let (o, n) := (kfb_private% "ownerAndName") id; pure (Str.ofString n, Value.type o)) = _
  rw [ho]
theorem chk_inst {name : String} {Q : Unit → Shared → Prop} (ho : (kfb_private% "ownerAndName") id = (owner, name)) (hi : Looks M s.heap (isInstance (.ref x) (.type owner)) true) (h : Q () s) : wpAny M A ((kfb_private% "checkInstance") (.builtin id) (.ref x)) Q E s := by
  show wpAny M A ((kfb_private% "nameAndClass") (.builtin id) >>= _) Q E s
  rw [nac ho]
  refine wpAny_bind (wpAny_pure (wpAny_bind (hi.here ?_)))
  exact wpAny_pure h

theorem wd_get {name : String} {P : PySem.Fin → Shared → Prop} (ho : (kfb_private% "ownerAndName") id = (owner, name)) (hi : Looks M s.heap (isInstance (.ref x) (.type owner)) true)
    (h : P (.done (.ret (.ref s.heap.objs.size))) { s with heap := s.heap.push { cls := .type "method-wrapper", data := .fields #[.builtin id, .ref x] } }) :
    wpAny M A (Builtin.«wrapper_descriptor.__get__» ⟨[.builtin id, .ref x, .ref C], []⟩) P E s := by
  unfold Builtin.«wrapper_descriptor.__get__»
  refine wpAny_bind (wpAny_of_eq (a := (.builtin id, some (.ref x), some (.ref C))) (by rfl) ?_)
  show wpAny M A ((kfb_private% "checkInstance") (.builtin id) (.ref x) >>= fun _ => _) P E s
  refine wpAny_bind (chk_inst ho hi ?_)
  exact wpAny_bind (wpAny_newObj_type (wpAny_pure h))

theorem md_get {name : String} {P : PySem.Fin → Shared → Prop} (ho : (kfb_private% "ownerAndName") id = (owner, name)) (ht : Manifest.toldItsClass.contains id = false) (hi : Looks M s.heap (isInstance (.ref x) (.type owner)) true)
    (h : P (.done (.ret (.ref s.heap.objs.size))) { s with heap := s.heap.push { cls := .type "builtin_function_or_method", data := .fields #[.builtin id, .ref x] } }) :
    wpAny M A (Builtin.«method_descriptor.__get__» ⟨[.builtin id, .ref x, .ref C], []⟩) P E s := by
  unfold Builtin.«method_descriptor.__get__»
  refine wpAny_bind (wpAny_of_eq (a := (.builtin id, some (.ref x), some (.ref C))) (by rfl) ?_)
  dsimp only
  rw [ht]
  show wpAny M A ((kfb_private% "checkInstance") (.builtin id) (.ref x) >>= fun _ => _) P E s
  refine wpAny_bind (chk_inst ho hi ?_)
  exact wpAny_bind (wpAny_newObj_type (wpAny_pure h))

theorem slot_wd : Slot "wrapper_descriptor" "__get__" "wrapper_descriptor.__get__" :=
  .of (owner := "wrapper_descriptor") (n := "__get__") (by rw [typeLookup_type, builtinLookup_eq_fast]; kernel_rfl) (by decide +kernel) (by decide +kernel) (by decide +kernel)
    (by first | exact .inl (by decide +kernel) | exact .inr (by decide +kernel)) (by rw [isSubtype_type]; kernel_rfl)
theorem entry_wd : entryFor table "wrapper_descriptor.__get__" = some Builtin.«wrapper_descriptor.__get__» := entryFor_of_tree (by kernel_rfl)
theorem args_wd (a b c : Value) : argsOk "wrapper_descriptor.__get__" ⟨[a, b, c], []⟩ := by unfold argsOk; kernel_rfl
theorem slot_md : Slot "method_descriptor" "__get__" "method_descriptor.__get__" :=
  .of (owner := "method_descriptor") (n := "__get__") (by rw [typeLookup_type, builtinLookup_eq_fast]; kernel_rfl) (by decide +kernel) (by decide +kernel) (by decide +kernel)
    (by first | exact .inl (by decide +kernel) | exact .inr (by decide +kernel)) (by rw [isSubtype_type]; kernel_rfl)
theorem entry_md : entryFor table "method_descriptor.__get__" = some Builtin.«method_descriptor.__get__» := entryFor_of_tree (by kernel_rfl)
theorem args_md (a b c : Value) : argsOk "method_descriptor.__get__" ⟨[a, b, c], []⟩ := by unfold argsOk; kernel_rfl

/-- a method bound through super(): the object that stands for it -/
theorem super_ga {h : Heap} {g : Array GenState} {d : Drawn} {t : Nat} {os : OsState} {l₀ l : List Value} {K : Frag} {name : Str} {T gid bt : String} {B : Builtin} {tk : Tok} {Q : PySem.Fin → Shared → Prop}
    (hso : h.get? so = some { cls := .type "super", dict := none, data := .fields #[.ref D, .ref x, .ref C], slots := #[] }) (hno : Looks (model prog w) h (opaqueClassAbove (.ref C)) none)
    (hC : Looks (model prog w) h (mroOf (.ref C)) l₀) (hl : (l₀.dropWhile (· != .ref D)).drop 1 = l) (X : K.In h)
    (hf : alongIn K name l = some (some (.builtin id))) (hT : typeOf (.builtin id) = pure (.type T)) (sl : Slot T "__get__" gid) (he : entryFor table gid = some B) (ha : ∀ a b c : Value, argsOk gid ⟨[a, b, c], []⟩)
    (hb : ∀ {A : Around} {P : PySem.Fin → Shared → Prop}, P (.done (.ret (.ref h.objs.size))) ⟨h.push { cls := .type bt, data := .fields #[.builtin id, .ref x] }, g, d, t, os⟩ → wpAny (model prog w) A (B ⟨[.builtin id, .ref x, .ref C], []⟩) P E ⟨h, g, d, t, os⟩)
    (hxC : x ≠ C) (hn : (name == ("__class__" : Str)) = false)
    (hq : Q (.done (.ret (.ref h.objs.size))) ⟨h.push { cls := .type bt, data := .fields #[.builtin id, .ref x] }, g, d, t, os⟩) :
    wpAny (model prog w) A (Builtin.«super.__getattribute__» ⟨[.ref so, .str name tk], []⟩) Q E ⟨h, g, d, t, os⟩ := by
  have hlk := sl.lookup
  have hne : (Value.ref x == Value.ref C) = false := by simp [hxC]
  have hTf : (⟨h, g, d, t, os⟩ : Shared).TypeIs (.builtin id) T := hT
  have hdt : ({ cls := .type "super", dict := none, data := .fields #[.ref D, .ref x, .ref C], slots := #[] } : Obj).data = .fields #[.ref D, .ref x, .ref C] := rfl
  have f0 : (#[.ref D, .ref x, .ref C] : Array Value)[0]? = some (.ref D) := rfl
  have f1 : (#[.ref D, .ref x, .ref C] : Array Value)[1]? = some (.ref x) := rfl
  have f2 : (#[.ref D, .ref x, .ref C] : Array Value)[2]? = some (.ref C) := rfl
  unfold Builtin.«super.__getattribute__»
  repeat (first
    | (with_reducible refine wpAny_field hso hdt f0 ?_) | (with_reducible refine wpAny_field hso hdt f1 ?_) | (with_reducible refine wpAny_field hso hdt f2 ?_)
    | (with_reducible refine ks_wpAny_notOpaque hno ?_)
    | (with_reducible refine Looks.at hC ?_; rw [hl])
    | (refine ks_forIn_along X (fun _ _ => rfl) rfl ?_ hf)
    | (with_reducible refine wpAny_of_eq hT ?_)
    | (with_reducible refine wpAny_call_entry sl hTf he ?_ (ha _ _ _))
    | (with_reducible refine hb ?_)
    | (with_reducible refine ⟨_, rfl, ?_⟩)
    | (simp only [hn, hne, Bool.or_false, Bool.false_eq_true, if_false])
    | wp_step
    | dsimp only)
  all_goals exact hq
end
end

/-! part F6 -/
section
variable {c : Cx} {fs fs' : Fs} {ld ld' : Ld} {s : Shared} {A : Around} {env : Env} {L : Addr} {m : Str → Option Value} {sc : Scope} {cd : Value}
section
variable {prog : Program} {w : World} {M : Model} {E : Value → Shared → Prop} {id owner : String} {x C D so : Addr}
theorem getMethod_super_bi {h : Heap} {g : Array GenState} {d : Drawn} {t : Nat} {os : OsState} {l₀ l : List Value} {K : Frag} {name : Str} {T gid bt : String} {B : Builtin} {pl : Sem Bool} {Q : Value × List Value → Shared → Prop}
    (hso : h.get? so = some { cls := .type "super", dict := none, data := .fields #[.ref D, .ref x, .ref C], slots := #[] }) (hno : Looks (model prog w) h (opaqueClassAbove (.ref C)) none)
    (hC : Looks (model prog w) h (mroOf (.ref C)) l₀) (hl : (l₀.dropWhile (· != .ref D)).drop 1 = l) (X : K.In h)
    (hf : alongIn K name l = some (some (.builtin id))) (hT : typeOf (.builtin id) = pure (.type T)) (sl : Slot T "__get__" gid) (he : entryFor table gid = some B) (ha : ∀ a b c : Value, argsOk gid ⟨[a, b, c], []⟩)
    (hb : ∀ {A : Around} {P : PySem.Fin → Shared → Prop}, P (.done (.ret (.ref h.objs.size))) ⟨h.push { cls := .type bt, data := .fields #[.builtin id, .ref x] }, g, d, t + 1, os⟩ → wpAny (model prog w) A (B ⟨[.builtin id, .ref x, .ref C], []⟩) P (fun _ _ => False) ⟨h, g, d, t + 1, os⟩)
    (hxC : x ≠ C) (hn : (name == ("__class__" : Str)) = false)
    (hq : Q (.ref h.objs.size, []) ⟨h.push { cls := .type bt, data := .fields #[.builtin id, .ref x] }, g, d, t + 1, os⟩) :
    wpAny (model prog w) A (getMethod (.ref so) name pl) Q E ⟨h, g, d, t, os⟩ := by
  have hlk := PySem.F.ks_slot_super_ga.lookup
  have hcan := PySem.F.ks_canon_super_ga
  have hT' : ∀ t', (⟨h, g, d, t', os⟩ : Shared).TypeIs (.ref so) "super" := fun _ => ⟨_, hso, rfl⟩
  unfold getMethod
  refine wpAny_bind (wpAny_specialOf (hT' _) hlk ?_)
  show wpAny _ _ (if (Manifest.canonical "super.__getattribute__" != "object.__getattribute__") = true then _ else _) _ _ _
  rw [if_pos hcan]
  unfold getAttr getAttrBy
  refine wpAny_bind (wpAny_bind (wpAny_mkText (wpAny_holding (wpAny_bind (wpAny_typeOf (hT' _) (wpAny_bind (wpAny_of_eq hlk ?_)))))))
  show wpAny _ _ (getAttrByItsOwn (.ref so) (.str name t) (.type "super") (.builtin "super.__getattribute__") true false) _ _ _
  unfold getAttrByItsOwn hookBefore callGetattribute boundAndCalled
  refine wpAny_bind (wpAny_of_eq (show (if onTheHeap (.type "super") then typeLookup (.type "super") "__getattr__" else pure none) = pure none from rfl) ?_)
  refine wpAny_bind (wpAny_attempt (wpAny_holding ?_))
  show wpAny _ _ (bindSpecial (.builtin "super.__getattribute__") (.ref so) >>= _) _ _ _
  refine wpAny_bind (wpAny_of_eq (PySem.F.ks_slot_super_ga.bind _) ?_)
  refine wpAny_mono (Q := fun v s' => v = .ref h.objs.size ∧ s' = ⟨h.push { cls := .type bt, data := .fields #[.builtin id, .ref x] }, g, d, t + 1, os⟩) (E := fun _ _ => False)
    (wpAny_call_entry PySem.F.ks_slot_super_ga (hT' _) PySem.F.ks_entry_super_ga (super_ga hso hno hC hl X hf hT sl he ha hb hxC hn ⟨_, rfl, rfl, rfl⟩) (PySem.F.ks_gaArgs_super _ _)) (fun v s' hv => ?_) fun _ _ z => z.elim
  obtain ⟨rfl, rfl⟩ := hv
  exact wpAny_pure (wpAny_pure hq)

abbrev boundO (bt : String) (id : String) (x : Addr) : Obj := { cls := .type bt, data := .fields #[.builtin id, .ref x] }
theorem callWith_bo {pos : Pos} {u : Addr} {bt : String} {first : List Value} {args : List (Bool × Sem Value)} {Q : Value → Shared → Prop} (hbt : bt = "builtin_function_or_method" ∨ bt = "method-wrapper") (hplain : args.any (·.1) = false)
    (h : wpAny M A (evalArgs (.ref u) true args []) (fun a s₁ => s₁.heap.get? u = some (boundO bt id x) ∧ wpAny M A (call (.ref u) (first ++ a.pos) a.kw) Q E s₁) E s) : wpAny M A (callWith pos (.ref u) first args []) Q E s := by
  unfold callWith
  refine wpAny_bind (wpAny_holding (wpAny_mono h (fun a s₁ h₁ => wpAny_bind (wpAny_standAt ?_)) fun _ _ x => x))
  obtain ⟨ho, hcall⟩ := h₁
  simp only [hplain, List.any_nil, Bool.or_false]
  refine wpAny_bind (m := keeperOf (.ref u)) ?_
  unfold keeperOf
  refine wpAny_bind (wpAny_load ho ?_)
  rcases hbt with rfl | rfl
  · simp only [show (Value.type "builtin_function_or_method" != Value.type "method") = true by decide, show (Value.type "builtin_function_or_method" == Value.type "builtin_function_or_method" || Value.type "builtin_function_or_method" == Value.type "method-wrapper") = true by decide, if_true]
    refine wpAny_pure ?_
    exact wpAny_bind (wpAny_mono hcall (fun r s₂ hr => wpAny_bind (wpAny_holding (wpAny_point (wpAny_pure hr)))) fun _ _ x => x)
  · simp only [show (Value.type "method-wrapper" != Value.type "method") = true by decide, show (Value.type "method-wrapper" == Value.type "builtin_function_or_method" || Value.type "method-wrapper" == Value.type "method-wrapper") = true by decide, if_true]
    refine wpAny_pure ?_
    exact wpAny_bind (wpAny_mono hcall (fun r s₂ hr => wpAny_bind (wpAny_holding (wpAny_point (wpAny_pure hr)))) fun _ _ x => x)

theorem call_bo {u : Addr} {bt : String} {args : List Value} {Bi : Builtin} {Q : Value → Shared → Prop} (hbt : bt = "builtin_function_or_method" ∨ bt = "method-wrapper") (ho : s.heap.get? u = some (boundO bt id x)) (hp : plainId id = true) (he : entryFor table id = some Bi)
    (h : wpAny (model prog w) A.in1 (checkBoundCall id ⟨.ref x :: args, []⟩) (fun _ s₁ => wpAny (model prog w) A.in1 (Bi ⟨.ref x :: args, []⟩) (fun fin s' => ∃ v, fin = .done (.ret v) ∧ Q v s') E s₁) E s) :
    wpAny (model prog w) A (call (.ref u) args) Q E s := by
  refine wpAny_call (codeAny_of_tree ?_)
  show wpAny _ A.in1 (callAny (.ref u) ⟨args, []⟩) _ _ _
  unfold callAny
  refine wpAny_bind (wpAny_load ho ?_)
  have fin : wpAny (model prog w) A.in1 (do checkBoundCall id ⟨.ref x :: args, []⟩; again (.builtin id ⟨.ref x :: args, []⟩))
      (fun fin s' => match fin with | .done f => (match Except.ok f with | .ok (.ret v) => Q v s' | .ok _ => False | .error e => E e s') | .again c' => c'.quiet = true ∧ codeAny (model prog w) A c' (fun r s' => match r with | .ok (.ret v) => Q v s' | .ok _ => False | .error e => E e s') s')
      (fun e s' => E e s') s := by
    refine wpAny_bind (wpAny_mono h (fun _ s₁ h₁ => ?_) fun _ _ z => z)
    refine wpAny_pure ⟨plainId_quiet hp _, codeAny_builtin he ?_⟩
    rw [Around.under_plainId hp _]
    refine wpAny_mono h₁ (fun fin s' z => ?_) fun _ _ z => z
    obtain ⟨v, rfl, hq⟩ := z
    exact hq
  rcases hbt with rfl | rfl <;> exact fin
end

variable {Lp Dp so : Addr} {od : Obj} {items : Array Value} {e : Nat} {n : Nat} {Q : Value → Shared → Prop}
theorem t_len : typeOf (.builtin "list.__len__") = pure (.type "wrapper_descriptor") := by show builtinType _ = _; rw [builtinType_eq_fast]; kernel_rfl
theorem t_init : typeOf (.builtin "list.__init__") = pure (.type "wrapper_descriptor") := by show builtinType _ = _; rw [builtinType_eq_fast]; kernel_rfl
theorem t_pop : typeOf (.builtin "list.pop") = pure (.type "method_descriptor") := by show builtinType _ = _; rw [builtinType_eq_fast]; kernel_rfl
theorem o_len : (kfb_private% "ownerAndName") "list.__len__" = ("list", "__len__") := by first | decide +kernel | kernel_rfl
theorem o_init : (kfb_private% "ownerAndName") "list.__init__" = ("list", "__init__") := by first | decide +kernel | kernel_rfl
theorem o_pop : (kfb_private% "ownerAndName") "list.pop" = ("list", "pop") := by first | decide +kernel | kernel_rfl
theorem mro148 : ∃ cd, clsIn c.K 148 = some cd ∧ cd.mro = [.ref 148, .type "list", .type "object"] := Option.map_eq_some_iff.mp (show (clsIn c.K 148).map (·.mro) = some [.ref 148, .type "list", .type "object"] from by kernel_rfl)

theorem superGet {id bt T gid : String} {B : Builtin} {name : Str} {pl : Sem Bool} {Q : Value × List Value → Shared → Prop} (I : St c fs ((Lp, pileObj Dp items e) :: ld) s) (hD : (Dp, od) ∈ ld) (hso : (so, superO Lp) ∈ ld)
    (hf : alongIn c.K name [.type "list", .type "object"] = some (some (.builtin id))) (hT : typeOf (.builtin id) = pure (.type T)) (sl : Slot T "__get__" gid) (he : entryFor table gid = some B) (ha : ∀ a b c : Value, argsOk gid ⟨[a, b, c], []⟩)
    (hb : ∀ {M : Model} {A : Around} {E : Value → Shared → Prop} {s : Shared} {P : PySem.Fin → Shared → Prop}, Looks M s.heap (isInstance (.ref Lp) (.type "list")) true → P (.done (.ret (.ref s.heap.objs.size))) { s with heap := s.heap.push { cls := .type bt, data := .fields #[.builtin id, .ref Lp] } } → wpAny M A (B ⟨[.builtin id, .ref Lp, .ref 148], []⟩) P E s)
    (hn : (name == ("__class__" : Str)) = false)
    (h : ∀ q s', St c fs ((Lp, pileObj Dp items e) :: (q, boundO bt id Lp) :: ld) s' → Q (.ref q, []) s') : wpAny c.MD A (getMethod (.ref so) name pl) Q NoE s := by
  obtain ⟨cd, hc, hm⟩ := mro148 (c := c)
  have hmr : Looks c.MD s.heap (mroOf (.ref 148)) [.ref 148, .type "list", .type "object"] := by rw [← hm]; exact (looks_clsIn I.kx hc).andThen .now
  have J := I.inst hD
  have hins : Looks c.MD s.heap (isInstance (.ref Lp) (.type "list")) true := J.type.andThen (looks_mroIn I.kx fa_list)
  have hne : Lp ≠ 148 := by
    rintro rfl
    have := (I.nb 148 (List.mem_append.mpr (.inr (.head _)))).1
    obtain ⟨o, ho⟩ := Option.isSome_iff_exists.mp (show (c.K.lookup 148).isSome = true from by kernel_rfl)
    rw [I.ok.kin _ _ ho] at this
    cases this
  have hso' := I.ob _ (.tail _ hso)
  obtain ⟨hh, g, d, t, os⟩ := s
  refine getMethod_super_bi hso' (looks_opaque I.kx (by kernel_rfl)) hmr (by rfl) I.kx hf hT sl he ha (fun hp => hb hins hp) hne hn ?_
  exact h _ _ ((I.new (tk := t + 1) (o := boundO bt id Lp) rfl (Heap.get?_push_size _ rfl) fun b o e => Heap.get?_push_of_some _ e).perm (List.Perm.swap _ _ _))
end

/-! part F7 -/
section
variable {c : Cx} {fs fs' : Fs} {ld ld' : Ld} {s : Shared} {A : Around} {env : Env} {L : Addr} {m : Str → Option Value} {sc : Scope} {cd : Value}
variable {Lp Dp so : Addr} {od : Obj} {items : Array Value} {e : Nat} {n : Nat} {Q : Value → Shared → Prop}
theorem entry_len : entryFor table "list.__len__" = some Builtin.«list.__len__» := entryFor_of_tree (by kernel_rfl)
theorem entry_init : entryFor table "list.__init__" = some Builtin.«list.__init__» := entryFor_of_tree (by kernel_rfl)
theorem entry_pop : entryFor table "list.pop" = some Builtin.«list.pop» := entryFor_of_tree (by kernel_rfl)
theorem cb_len (a : Value) : checkBoundCall "list.__len__" ⟨[a], []⟩ = pure () := by kernel_rfl
theorem cb_init (a : Value) : checkBoundCall "list.__init__" ⟨[a], []⟩ = pure () := by kernel_rfl

set_option maxRecDepth 100000 in
theorem partc_ct (ok : c.Ok) (I : St c fs ((Lp, pileObj Dp items e) :: ld) s) (hA : AOk (n + 1) A) (hD : (Dp, od) ∈ ld) (hz : items.size < 1000)
    (h : ∀ s' t, St c fs ((Lp, pileObj Dp items e) :: ld) s' → Q (.int items.size t) s') :
    wpAny c.MD A (call (.ref 145) [.ref Lp] []) Q NoE s := by
  refine callFAt (args := ⟨_, _⟩) I hA (kg ok rfl rfl) ⟨_, _, _, _, rfl, kg ok rfl rfl, rfl, rfl⟩ rfl (BindsTo.of_eq rfl) (by decide) (locs rfl) rfl rfl rfl rfl rfl ?_
  intro L s' env N hcells hfu I' hA'
  refine ks_wpAt_execs_cons ?_
  refine ks_wpAt_Return_some ?_
  refine ks_wpAt_MethodCall ?_
  refine superBase I' N hcells hfu rfl rfl rfl rfl rfl (kg ok rfl rfl) rfl rfl (kg ok rfl rfl) rfl ?_
  intro so s1 I1
  refine superGet (id := "list.__len__") (bt := "method-wrapper") I1 (.tail _ hD) (.head _) (by kernel_rfl) t_len slot_wd entry_wd args_wd (fun hi hp => wd_get o_len hi hp) rfl ?_
  intro q s2 I2
  refine callWith_bo (bt := "method-wrapper") (id := "list.__len__") (x := Lp) (.inr rfl) rfl (evalArgs_nil3 ⟨I2.ob _ (.tail _ (.head _)), ?_⟩)
  refine call_bo (.inr rfl) (I2.ob _ (.tail _ (.head _))) (by decide +kernel) entry_len (wpAny_of_eq (cb_len _) ?_)
  show wpAny _ _ (do retInt (← seqSize Lp)) _ _ s2
  unfold seqSize
  refine wpAny_bind (wpAny_bind (wpAny_load (I2.ob _ (.head _)) ?_))
  refine wpAny_pure (wpAny_bind (wpAny_mkInt (wpAny_pure ⟨_, rfl, ?_⟩)))
  exact h _ _ ((I2.tok.dropFr).subl (by
    refine List.Sublist.cons_cons _ (List.Sublist.cons _ (List.Sublist.cons _ (List.Sublist.refl _)))))


theorem sp1 (a : Value) : (Manifest.signature? "list.pop").elim (unsupported "x") (fun sig => Bind.checkArgs "list.pop" { sig with full := s!"{(Str.ofString "_Accumulator").toString}.{Bind.lastOf "list.pop"}" } ⟨[a], []⟩) = pure () := by kernel_rfl
theorem sp2 : (Manifest.signature? "list.pop").isSome = true := by kernel_rfl
theorem sp3 : builtinKind "list.pop" = some .method := by decide +kernel
theorem sp4 : Manifest.varargsMethods.contains "list.pop" = false := by decide +kernel
theorem cb_pop (X : c.K.In s.heap) (I : InstAt s.heap Lp (pileObj Dp items e) 148 (some od)) {M : Model} {E : Value → Shared → Prop} {Q : Unit → Shared → Prop} (h : Q () s) : wpAny M A (checkBoundCall "list.pop" ⟨[.ref Lp], []⟩) Q E s := by
  have hm : Looks M s.heap (isInstance (.ref Lp) (.type "module")) false := I.type.andThen (looks_mroIn X (by kernel_rfl))
  have ht : Looks M s.heap (typeOf (.ref 148)) (.type "type") := looks_typeIn X (by kernel_rfl)
  obtain ⟨cd, hc, _⟩ := mro148 (c := c)
  have hcd : Looks M s.heap (classData 148) cd := looks_clsIn X hc
  have hI := I.type (M := M)
  have hat := I.at_
  obtain ⟨sig, hs⟩ := Option.isSome_iff_exists.mp sp2
  have h1 := sp1 (.ref Lp)
  rw [hs] at h1
  have hq : (clsIn c.K 148).map (·.qualname) = some (Str.ofString "_Accumulator") := by kernel_rfl
  rw [hc] at hq
  have hq := Option.some.inj hq
  rw [← hq] at h1
  obtain ⟨hh, g, d, t, os⟩ := s
  unfold checkBoundCall
  rw [hs, sp3]
  dsimp only
  rw [if_neg (by decide)]
  refine wpAny_bind (hm.at ?_)
  rw [sp4]
  refine wpAny_bind (ks_wpAny_isType_inst hat (fun _ e => by cases e) ?_)
  refine wpAny_bind (hI.at ?_)
  refine wpAny_bind (hcd.at ?_)
  refine wpAny_bind (ht.at ?_)
  exact wpAny_of_eq h1 h

theorem pop_own {x : Value} {E : Value → Shared → Prop} {Q : PySem.Fin → Shared → Prop} (I : St c fs ((Lp, pileObj Dp (items.push x) e) :: ld) s) (hz : items.size < 999)
    (h : ∀ s' e', St c fs ((Lp, pileObj Dp items e') :: ld) s' → Q (.done (.ret x)) s') : wpAny c.MD A (Builtin.«list.pop» ⟨[.ref Lp], []⟩) Q E s := by
  have hl := I.ob _ (.head _)
  have hE : (items.push x).eraseIdxIfInBounds ((items.push x).size - 1) = items := by
    rw [Array.size_push, Nat.add_sub_cancel]
    unfold Array.eraseIdxIfInBounds
    rw [dif_pos (by rw [Array.size_push]; omega)]
    apply Array.toList_inj.mp
    rw [Array.toList_eraseIdx, Array.toList_push, ← Array.length_toList, List.eraseIdx_append_of_length_le (Nat.le_refl _)]
    simp
  have hh : ∀ s' e', St c fs ((Lp, pileObj Dp ((items.push x).eraseIdxIfInBounds ((items.push x).size - 1)) e') :: ld) s' → Q (.done (.ret x)) s' := fun s' e' I' => h s' e' (by rw [hE] at I'; exact I')
  have hU := I
  obtain ⟨hp, g, d, tk, os⟩ := s
  have hsz : (items.push x).size = items.size + 1 := Array.size_push ..
  have hne : ¬ (items.push x).isEmpty = true := by simp
  have hk : seqIndex? (-1) (items.push x).size = some ((items.push x).size - 1) := by
    rw [seqIndex_neg (by omega) (by omega)]; congr 1; omega
  have hy : (items.push x)[(items.push x).size - 1]? = some x := by simp
  have hs1 : (items.push x).size ≤ sizeLine := by rw [hsz]; exact Nat.le_trans (by omega : items.size + 1 ≤ 1000) (by decide)
  wp_walk using wpAny_loadPart' hl
  simp only [hk, hy, Option.bind_some, Option.map_some]
  have hz' : ((items.push x).eraseIdxIfInBounds ((items.push x).size - 1)).size ≤ sizeLine := by rw [hE]; omega
  generalize (items.push x).size - 1 = z at *
  refine wpAny_bind (rUpdSeq hU hz' hs1 fun s' k' I' => ?_)
  exact wpAny_pure (hh _ _ I')

section
variable {prog : Program} {w : World} {E : Value → Shared → Prop} {K : Frag} {x C : Addr} {ox : Obj} {od : Option Obj}
theorem method_f2 {name : Str} {pl : Sem Bool} {f : Addr} {ga : String} {Q : Value × List Value → Shared → Prop} (X : K.In s.heap) (I : InstAt s.heap x ox C od) (hga : findIn K (.ref C) "__getattribute__" = some (some (.builtin ga))) (hcan : (Manifest.canonical ga != "object.__getattribute__") = false) (hk : findIn K (.ref C) "__getattr__" = some none)
    (hf : findIn K (.ref C) name = some (some (.ref f))) (ht : typeIn K (.ref f) = some (.type "function")) (hs : shadowIn od name = some false) (h : Q (.ref f, [.ref x]) s) :
    wpAny (model prog w) A (getMethod (.ref x) name pl) Q E s := by
  unfold getMethod specialOf
  refine wpAny_bind (wpAny_bind (I.type.here ((looks_findIn X hga).here ?_)))
  dsimp only
  rw [hcan, if_neg (by decide)]
  refine wpAny_bind (wpAny_bind (I.type.here ((looks_findIn X hk).here ?_)))
  refine wpAny_bind (wpAny_bind (I.type.here ((looks_findIn X hf).here (wpAny_bind ((looks_typeIn X ht).here ?_)))))
  rw [if_neg (by decide +kernel)]
  refine wpAny_bind (wpAny_loadPart I.at_ ?_)
  have hd := I.dict
  cases e : ox.dict with
  | none => exact wpAny_bind (wpAny_rule (wpAny_pure h))
  | some dx =>
    cases od with
    | none => rw [e] at hd; exact hd.elim
    | some o =>
      rw [e] at hd
      obtain ⟨r, a, b⟩ := Option.map_eq_some_iff.mp hs
      refine wpAny_bind (wpAny_bind (wpAny_loadPart hd ?_))
      rw [nsLook_of a]
      refine wpAny_pure ?_
      rw [b]
      exact wpAny_bind (wpAny_rule (wpAny_pure h))
end

set_option maxRecDepth 100000 in
theorem pop_ct (ok : c.Ok) {x : Value} (I : St c fs ((Lp, pileObj Dp (items.push x) e) :: ld) s) (hA : AOk (n + 2) A) (hD : (Dp, od) ∈ ld) (hp : PDict od) (hz : items.size < 999)
    (h : ∀ s' e', St c fs ((Lp, pileObj Dp items e') :: ld) s' → Q x s') :
    wpAny c.MD A (call (.ref 108) [.ref Lp] []) Q NoE s := by
  refine callFAt (args := ⟨_, _⟩) I hA (kg ok rfl rfl) ⟨_, _, _, _, rfl, kg ok rfl rfl, rfl, rfl⟩ rfl (BindsTo.of_eq rfl) (by decide) (locs rfl) rfl rfl rfl rfl rfl ?_
  intro L s' env N hcells hfu I' hA'
  refine ks_wpAt_execs_cons ?_
  refine ks_wpAt_If ?_
  refine wpAt_of_wpAny ?_
  repeat (walk_at "st")
  refine MethodCall_ ?_
  repeat (walk_at "st")
  refine method_f2 I'.kx (I'.inst hD) fa_ga canon_list_getattribute fa_gt fa_pc (by kernel_rfl) (hp.sh rfl) ?_
  refine callWith_K0 I'.kx (by kernel_rfl) ?_
  refine partc_ct ok I' hA' hD (by rw [Array.size_push]; omega) ?_
  intro s1 t1 I1
  repeat (walk_at "st")
  refine eq_int ?_
  refine wpAny_truthy_bool ?_
  rw [show (((items.push x).size : Int) == 0) = false from by rw [Array.size_push]; simp; omega]
  rw [if_neg (by decide)]
  refine wpAt_of_wpAny ?_
  repeat (walk_at "st")
  refine ks_wpAt_execs_cons ?_
  refine ks_wpAt_Return_some ?_
  refine ks_wpAt_MethodCall ?_
  refine superBase (by assumption) N hcells hfu rfl rfl rfl rfl rfl (kg ok rfl rfl) rfl rfl (kg ok rfl rfl) rfl ?_
  intro so s1 I1
  refine superGet (id := "list.pop") (bt := "builtin_function_or_method") I1 (.tail _ hD) (.head _) (by kernel_rfl) t_pop slot_md entry_md args_md (fun hi hp => md_get o_pop (by decide +kernel) hi hp) rfl ?_
  intro q s2 I2
  refine callWith_bo (bt := "builtin_function_or_method") (id := "list.pop") (x := Lp) (.inl rfl) rfl (evalArgs_nil3 ⟨I2.ob _ (.tail _ (.head _)), ?_⟩)
  refine call_bo (.inl rfl) (I2.ob _ (.tail _ (.head _))) (by decide +kernel) entry_pop (cb_pop I2.kx (I2.inst (.tail _ (.tail _ hD))) ?_)
  refine pop_own I2 hz ?_
  intro s3 e3 I3
  exact ⟨_, rfl, h _ _ ((I3.dropFr).subl (by
    refine List.Sublist.cons_cons _ (List.Sublist.cons _ (List.Sublist.cons _ (List.Sublist.refl _)))))⟩
end

/-! part F8 -/
section
variable {c : Cx} {fs fs' : Fs} {ld ld' : Ld} {s : Shared} {A : Around} {env : Env} {L : Addr} {m : Str → Option Value} {sc : Scope} {cd : Value}
variable {Lp Dp so : Addr} {od : Obj} {items : Array Value} {e : Nat} {n : Nat} {Q : Value → Shared → Prop}

structure MakesL (M : Model) (h : Heap) (C : Addr) (cd : ClassData) : Prop where
  obj : ∃ oc od sl, h.get? C = some ⟨oc, od, .cls cd, sl⟩
  del : cd.hasDel = false
  mro : cd.mro = [.ref 148, .type "list", .type "object"]
  made : Looks M h (Bind.madeBy (.ref C)) (some "list.__new__")
  base : Looks M h (Bind.staticBase (.ref C)) (.ref C)
  self : Looks M h (isSubtype (.ref C) (.ref C)) true
  top : Looks M h (isSubtype (.ref C) (.type "list")) true
  call : Looks M h (specialOf (.ref C) "__call__") (some (.builtin "type.__call__"))
  typ : Looks M h (isInstance (.ref C) (.type "type")) true
  isT : Looks M h (isType (.ref C)) true

theorem slotsA : (match c.K.lookup 148 with | some ⟨_, _, .cls cd, sl⟩ => some (cd.hasDel, cd.mro, (sl.toList[4]?).join, cd.qualname) | _ => none) = some (false, [.ref 148, .type "list", .type "object"], some (.builtin "list.__new__"), Str.ofString "_Accumulator") := by kernel_rfl

theorem makesL {M : Model} (X : c.K.In s.heap) : ∃ cd, clsIn c.K 148 = some cd ∧ MakesL M s.heap 148 cd := by
  have e := slotsA (c := c)
  split at e
  · rename_i oc od cd sl ho
    have e := Option.some.inj e
    obtain ⟨e2, e⟩ := Prod.mk.inj e
    obtain ⟨em, e⟩ := Prod.mk.inj e
    obtain ⟨e3, e4⟩ := Prod.mk.inj e
    have hc : clsIn c.K 148 = some cd := by unfold clsIn; rw [ho]
    have hm : Looks M s.heap (mroOf (.ref 148)) cd.mro := (looks_clsIn X hc).andThen .now
    have made : Looks M s.heap (Bind.madeBy (.ref 148)) (some "list.__new__") := by
      intro A Q E s k q
      unfold Bind.madeBy
      refine wpAny_bind (hm A _ E s k ?_)
      rw [em, List.forIn_cons]
      refine wpAny_bind (wpAny_bind (wpAny_bind (wpAny_bind (wpAny_loadPart (k _ _ (X _ _ ho)) (wpAny_pure ?_)))))
      dsimp only
      rw [← Array.getElem?_toList, e3]
      exact wpAny_pure (wpAny_pure (wpAny_pure q))
    refine ⟨cd, hc, ⟨_, _, _, X _ _ ho⟩, e2, em, made, ?_, looks_mroIn X (by kernel_rfl), looks_mroIn X (by kernel_rfl), looks_specialIn X (by kernel_rfl), looks_instIn X (by kernel_rfl), ?_⟩
    · intro A Q E s k q
      unfold Bind.staticBase
      refine wpAny_bind (hm A _ E s k ?_)
      rw [em, List.forIn_cons]
      exact wpAny_bind (wpAny_bind (wpAny_bind (made A _ E s k (wpAny_pure (wpAny_pure (wpAny_pure q))))))
    · intro A Q E s k q
      obtain ⟨hh, g, d, t, os⟩ := s
      exact ks_wpAny_isType_cls (k _ _ (X _ _ ho)) rfl q
  · cases e

theorem ln_kind : builtinKind "list.__new__" = some .builtinFn := by decide +kernel
theorem ln_split : splitId "list.__new__" = some ("list", "__new__") := by decide +kernel
theorem ln_sig : (Manifest.signature? "list.__new__").isSome = true ∨ Manifest.signature? "list.__new__" = none := by
  cases Manifest.signature? "list.__new__" <;> simp
theorem ln_args : (Manifest.signature? "list.__new__").elim (pure ()) (fun sig => Bind.checkArgs "list.__new__" sig ⟨[.ref 148], []⟩) = pure () := by kernel_rfl
theorem ln_quiet {as : Args} : (Code.builtin "list.__new__" as).quiet = true := Code.quiet_builtin _ (by decide +kernel)
theorem refuseA (x : Addr) : refuseLoop (.ref x) "__setattr__" [.ref 148, .type "list", .type "object"] = pure () := by kernel_rfl


section
variable {w : World} {prog : Program} {R : Result → Shared → Prop} {h : Heap} {g : Array GenState} {d : Drawn} {t : Nat} {os : OsState} {cl : ClassData}
abbrev newPile (dx : Addr) : Obj := { cls := .ref 148, dict := some dx, data := .seq #[] }
theorem new_L (Y : MakesL (model prog w) h 148 cl)
    (hq : R (.ok (.ret (.ref (h.objs.size + 1)))) ⟨(h.push emptyDict).push (newPile h.objs.size), g, d, t, os⟩) :
    codeAny (model prog w) A (.call (.builtin "list.__new__") ⟨[.ref 148], []⟩) R ⟨h, g, d, t, os⟩ := by
  obtain ⟨⟨oc, od, sl, hC⟩, e2, em, made, base, self, top, call, typ, isT⟩ := Y
  refine codeAny_call_builtin_code ln_quiet ?_
  simp only [checkBuiltinCall, ln_kind, ln_split]
  have here : Looks (model prog w) h (Bind.madeHere "list.__new__" (.ref 148)) () := base.andThen (made.andThen (Looks.of_pure (by simp only [Option.map_some, bne_self_eq_false, Bool.false_eq_true, if_false])))
  have args := ln_args
  repeat (first | simp only [bne_self_eq_false, Bool.false_eq_true, if_false] | lk)
  refine codeAny_builtin_stack PySem.F.entry_list_new rfl fun p st => ?_
  have hown := owner_list_new
  have hC' := Heap.get?_push_of_some (newPile (h.push emptyDict).objs.size.pred) (Heap.get?_push_of_some emptyDict hC)
  dsimp only
  simp only [hown]
  refine wpAny_bind (Looks.at isT ?_)
  rw [if_neg (by decide)]
  refine wpAny_bind (Looks.at top ?_)
  rw [if_neg (by decide)]
  refine wpAny_bind (wpAny_pure ?_)
  rw [if_neg (by decide)]
  show wpAny _ _ ((alloc emptyDict >>= fun x => pure (Value.ref x)) >>= _) _ _ _
  refine wpAny_bind (wpAny_bind (wpAny_alloc (wpAny_pure ?_)))
  show wpAny _ _ (newObj _ _ _ >>= _) _ _ _
  refine wpAny_bind ?_
  show wpAny _ _ (newObjAsIs _ _ _) _ _ _
  unfold newObjAsIs classHasDel
  refine wpAny_bind (wpAny_alloc (wpAny_bind (wpAny_bind (wpAny_load (Heap.get?_push_of_some _ (Heap.get?_push_of_some _ hC)) (wpAny_pure ?_)))))
  rw [e2]
  refine wpAny_pure (wpAny_pure ?_)
  show R _ _
  rw [Heap.size_push]
  exact hq

theorem make_L (Y : MakesL (model prog w) h 148 cl) {init : Value} (hi : Looks (model prog w) h (typeLookup (.ref 148) "__init__") (some init))
    (hb : ∀ self, Looks (model prog w) h (bindSpecial init self) (init, [self]))
    (hq : codeAny (model prog w) (A.under (.builtin "type.__call__" ⟨[.ref 148], []⟩)) (.call init ⟨[.ref (h.objs.size + 1)], []⟩) (InitBack (h.objs.size + 1) R) ⟨(h.push emptyDict).push (newPile h.objs.size), g, d, t, os⟩) :
    codeAny (model prog w) A (.call (.ref 148) ⟨[], []⟩) R ⟨h, g, d, t, os⟩ := by
  have Y' := Y
  obtain ⟨⟨oc, od, sl, hC⟩, e2, em, made, base, self, top, call, typ, isT⟩ := Y
  refine codeAny_of_tree ?_
  show wpAny _ _ (callAny (.ref 148) _) _ _ _
  refine nd_load hC ?_
  show wpAny _ _ (callAny.viaDunder (.ref 148) _) _ _ _
  unfold callAny.viaDunder
  refine wpAny_bind (call.at ?_)
  dsimp only
  rw [tc_bind]
  refine wpAny_bind (wpAny_pure (wpAny_bind (wpAny_pure ?_)))
  refine wpAny_pure (a := Fin.again (.call (.builtin "type.__call__") ⟨[.ref 148], []⟩)) (And.intro rfl ?_)
  refine codeAny_call_builtin_at (Code.quiet_builtin _ (by decide +kernel)) entry_typeCall (check_slot tc_kind tc_split typ (tc_args _ _ _) ?_)
  unfold Builtin.«type.__call__»
  have e4 : cl.mro.isEmpty = false := by rw [em]; rfl
  have hm : Looks (model prog w) h (mroOf (.ref 148)) cl.mro := ((Looks.ld (part := none) hC).andThen .now).andThen .now
  repeat (first | simp only [e4, Bool.false_eq_true, if_false] | with_reducible refine wpAny_call ?_ | lk)
  refine new_L Y' ?_
  have k : ∀ b o, h.get? b = some o → ((h.push emptyDict).push (newPile h.objs.size)).get? b = some o := fun b o e => Heap.get?_push_of_some _ (Heap.get?_push_of_some _ e)
  have hx : ((h.push emptyDict).push (newPile h.objs.size)).get? (h.objs.size + 1) = some (newPile h.objs.size) := by heap_get
  have t1 : Looks (model prog w) ((h.push emptyDict).push (newPile h.objs.size)) (typeOf (.ref (h.objs.size + 1))) (.ref 148) := (Looks.ld hx).andThen .now
  have s1 := self.keeps k
  have i1 := hi.keeps k
  have b1 := (hb (.ref (h.objs.size + 1))).keeps k
  unfold isInstance callSpecial? specialOf
  repeat (first | with_reducible refine wpAny_call ?_ | lk)
  refine codeAny_mono hq fun r s' z => ?_
  rcases r with e | (v | _ | _ | _) <;> first | exact z | exact z.elim | skip
  obtain ⟨rfl, z⟩ := z
  exact wpAny_pure (wpAny_pure z)
end
end

/-! part F9 -/
section
open Builtin Builtin.ObjectAttr
section
variable {c : Cx} {fs fs' : Fs} {ld ld' : Ld} {s : Shared} {A : Around} {env : Env} {L : Addr} {m : Str → Option Value} {sc : Scope} {cd : Value}
variable {Lp Dp so : Addr} {od : Obj} {items : Array Value} {e : Nat} {n : Nat} {Q : Value → Shared → Prop}

theorem AOk.in1 {n : Nat} {A : Around} (h : AOk (n + 1) A) : AOk n A.in1 := ⟨h.hh, by have := h.dp; show A.depth + n ≤ 900; omega, by have := h.un; show A.units + 1 + 20 * n + 20 ≤ 9000; omega, h.fs, h.gd⟩

theorem AOk.tcall {n : Nat} {A : Around} (h : AOk (n + 1) A) : AOk n (A.under (.builtin "type.__call__" ⟨[.ref 148], []⟩)) := by
  have w : (Code.builtin "type.__call__" ⟨[.ref 148], []⟩).weight = 1 := by kernel_rfl
  have u : (Code.builtin "type.__call__" ⟨[.ref 148], []⟩).cUnits = 1 := by kernel_rfl
  have ev : (Code.builtin "type.__call__" ⟨[.ref 148], []⟩).envs = [] := by kernel_rfl
  have gu : (Code.builtin "type.__call__" ⟨[.ref 148], []⟩).guards = [] := by kernel_rfl
  have eq : A.under (.builtin "type.__call__" ⟨[.ref 148], []⟩) = { A with depth := A.depth + 1, units := A.units + 1 } := by
    unfold Around.under
    rw [w, u, ev, gu]; rfl
  rw [eq]
  obtain ⟨h1, h2, h3, ⟨l, h4⟩, h5⟩ := h
  exact ⟨h1, by show A.depth + 1 + n ≤ 900; omega, by show A.units + 1 + 20 * n + 20 ≤ 9000; omega, ⟨l, h4⟩, h5⟩

theorem put0 (hh : Int) (k v : Value) : Obj.putName (Str.ofString "_initial_size") hh k v emptyDict = { cls := .type "dict", data := .dict #[⟨hh, k, v⟩] 1 } := by kernel_rfl
abbrev oneDict (hh : Int) (tk : Tok) (v : Value) : Obj := { cls := .type "dict", data := .dict #[⟨hh, .str (Str.ofString "_initial_size") tk, v⟩] 1 }
theorem pdict1 (hh : Int) (tk : Tok) (v : Value) : PDict (oneDict hh tk v) := by
  intro name hn
  have hn' : (Str.ofString "_initial_size" == name) = false := by rw [← hn]; exact Bool.eq_iff_iff.mpr ⟨fun h => by rw [beq_iff_eq] at h ⊢; exact h.symm, fun h => by rw [beq_iff_eq] at h ⊢; exact h.symm⟩
  simp [lookIn, Value.isStr, hn', DictEntry.refKey]

theorem setAttr_own {v : Value} {Q : Unit → Shared → Prop} (I : St c fs ((Dp, emptyDict) :: ld) s) (hL : (Lp, pileObj Dp items e) ∈ ld)
    (h : ∀ s' hh tk, St c fs ((Dp, oneDict hh tk v) :: ld) s' → Q () s') : wpAny c.MD A (setAttr (.ref Lp) (Str.ofString "_initial_size") v) Q NoE s := by
  have J : InstAt s.heap Lp (pileObj Dp items e) 148 (some emptyDict) := ⟨I.ob _ (.tail _ hL), rfl, rfl, I.ob _ (.head _)⟩
  have SF := PySem.F.store_object
  refine set_plain I.kx J (by kernel_rfl) ?_
  have I := I.tok (tk := s.toks + 1)
  refine codeAny_call_builtin SF.slot.plain SF.entry (@check_slot c.MD _ _ _ "object.__setattr__" "object" "__setattr__" (.ref Lp) [.str _ _, v] [] _ SF.kind SF.split (J.type.andThen (looks_mroIn I.kx (by kernel_rfl))) (SF.args (.ref Lp) _ v) ?_)
  obtain ⟨cd, hc, hm0⟩ := mro148 (c := c)
  have hm : Looks c.MD s.heap (mroOf (.ref 148)) cd.mro := (looks_clsIn I.kx hc).andThen .now
  have L3 : Looks c.MD s.heap (storeTaker? none) none := .now
  have hcd : (clsIn c.K 148).map (·.hasDict) = some true := by kernel_rfl
  rw [hc] at hcd
  have hcd : cd.hasDict = true := Option.some.inj hcd
  have D := I.ob _ (.head _)
  have L4 := looks_findIn (M := c.MD) (r := none) I.kx (t := .ref 148) (name := "_initial_size") (by kernel_rfl)
  have L5 := looks_clsIn (M := c.MD) I.kx hc
  have L0 := J.type (M := c.MD)
  have hat := J.at_
  obtain ⟨hp, g, d, t, os⟩ := s
  rw [osa_eq, refuse_eq]
  refine wpAny_bind (wpAny_bind (L0.at (wpAny_bind (hm.at ?_))))
  rw [hm0, refuseA]
  refine wpAny_pure (wpAny_bind (L0.at (wpAny_bind (L4.at (wpAny_bind (L3.at ?_))))))
  refine wpAny_bind (wpAny_pure (wpAny_bind (wpAny_bind (wpAny_loadPart hat (wpAny_bind (L5.at ?_))))))
  rw [hcd]
  refine wpAny_pure (a := some Dp) (wpAny_bind (wpAny_pure (wpAny_bind ?_)))
  unfold nsSet
  refine wpAny_bind (wpAny_bind (wpAny_askSetting (wpAny_pure (wpAny_bind (wpAny_mkText (wpAny_bind (wpAny_loadPart D ?_)))))))
  dsimp only
  have cc : (!(#[] : Array DictEntry).any (·.key.isStr "_initial_size") && (#[] : Array DictEntry).any (·.refKey)) = false := by simp
  rw [aRefKeyMayBeTheName_at, cc]
  refine wpAny_updatePart D ?_
  have G : (hp.update Dp (Obj.putName "_initial_size" (PyData.keyHash c.w.params "_initial_size") (.str "_initial_size" (t + 1)) v)).get? Dp = some (oneDict (PyData.keyHash c.w.params "_initial_size") (t + 1) v) := by
    rw [Heap.get?_update_self _ D (by rw [put0]; rfl), put0]
  refine wpAny_bind (wpAny_lookBehind G (pastItsLine_dict (Nat.le_of_ble_eq_true rfl)) ?_)
  refine wpAny_pure (h _ _ _ (I.setOb (tk := t + 1 + 1) G fun b x hb hx => (Heap.SameBut.update ..).extBut b x hb hx))

theorem init_own {E : Value → Shared → Prop} {Q : PySem.Fin → Shared → Prop} (I : St c fs ((Lp, pileObj Dp #[] e) :: ld) s)
    (h : ∀ s' e', St c fs ((Lp, pileObj Dp #[] e') :: ld) s' → Q (.done (.ret .none)) s') : wpAny c.MD A (Builtin.«list.__init__» ⟨[.ref Lp], []⟩) Q E s := by
  have hl := I.ob _ (.head _)
  have hU := I
  obtain ⟨hp, g, d, tk, os⟩ := s
  unfold Builtin.«list.__init__»
  dsimp only
  wp_walk using wpAny_loadPart' hl
  exact h _ _ (hU.setOb (tk := tk) (Heap.get?_update_self (Obj.mapSeq fun _ => #[]) hl rfl) fun b x hb hx => (Heap.SameBut.update ..).extBut b x hb hx)

theorem codeFAt {A : Around} {f : Addr} {sl : Array (Option Value)} {fd : FuncData} {body : List Stmt} {args : Args} {binds : List (Str × Value)} {n : Nat} {R : Result → Shared → Prop}
    (I : St c fs ld s) (hA : AOk (n + 1) A) (hf : c.hb.get? f = some ⟨.type "function", none, .func fd, sl⟩) (hcd : c.hb.CodeRec fd.code fd.qualname)
    (hb : fd.body = .stmts body) (hbind : BindsTo s fd args binds) (hcell : ∀ x ∈ fd.scope.names, x.2 ≠ .cell) (hloc : ∀ x ∈ binds, fd.scope.names.lookup x.1 = some .local)
    (hco : fd.scope.isCoroutine = false) (hgen : fd.scope.isGenerator = false) (hk : fd.scope.kind = .function) (hgl : fd.globals = mainGlobals) (hbl : fd.builtins = builtinsNs)
    (h : ∀ L s' env, EnvIs env L fd.scope fd.code → env.cells = fd.closure → env.func = some f → St c ((L, fun x => binds.reverse.lookup x) :: fs) ld s' → AOk n (A.deeper env) →
      _root_.PySem.wpAt c.MD (A.deeper env) (.func body env) (execs body env) (fun fl s'' => R (.ok (.ret (match fl with | .ret v => v | _ => .none))) s'') NoE s') :
    codeAny c.MD A (.call (.ref f) args) R s := by
  refine ks_codeAny_call_defAt (fd := fd) (body := body) (binds := binds) (by have := hA.dp; show A.depth < 1000; omega) (I.base _ _ hf) rfl I.lim (hcd.keeps I.base) hb hbind hcell hloc (fun h₀ hns hk' => ?_) hco hgen hk
  exact ks_wpAt_mono (h _ _ _ ⟨rfl, rfl, hgl, hbl, rfl⟩ rfl rfl (I.newFr rfl hns hk') hA.deeper) (fun fl s' x => x) (fun _ _ x => x.elim)

theorem make_ct (ok : c.Ok) (I : St c fs ld s) (hA : AOk (n + 2) A)
    (h : ∀ Lp Dp od e s', PDict od → St c fs ((Lp, pileObj Dp #[] e) :: (Dp, od) :: ld) s' → Q (.ref Lp) s') : wpAny c.MD A (call (.ref 148) [] []) Q NoE s := by
  obtain ⟨cl, hc, Y⟩ := makesL (M := c.MD) I.kx
  refine wpAny_call ?_
  have hi := looks_findIn (M := c.MD) I.kx (t := .ref 148) (name := "__init__") (r := some (.ref 85)) (by kernel_rfl)
  have hb : ∀ self, Looks c.MD s.heap (bindSpecial (.ref 85) self) (.ref 85, [self]) := fun self => bind_fn I.kx self (by kernel_rfl)
  have I1 := (I.new (tk := s.toks) (o := emptyDict) rfl (Heap.get?_push_size _ rfl) fun b o e => Heap.get?_push_of_some _ e)
  have I2 := (I1.new (tk := s.toks) (o := pileObj s.heap.objs.size #[] 0) rfl (Heap.get?_push_size _ rfl) fun b o e => Heap.get?_push_of_some _ e)
  obtain ⟨hh, g, d, t, os⟩ := s
  refine make_L Y hi hb ?_
  dsimp only at I2
  rw [Heap.size_push] at I2
  generalize hL : hh.objs.size + 1 = Lp at *
  generalize hD : hh.objs.size = Dp at *
  have hA' : AOk (n + 1) (A.under (.builtin "type.__call__" ⟨[.ref 148], []⟩)) := hA.tcall
  have I3 := I2.perm (List.Perm.swap _ _ _)
  clear I1 I2 I
  · refine codeFAt (args := ⟨[.ref Lp], []⟩) I3 hA' (kg ok rfl rfl) ⟨_, _, _, _, rfl, kg ok rfl rfl, rfl, rfl⟩ rfl (BindsTo.of_defaults (o := ⟨.type "tuple", none, .seq #[.int 0 345] 0, #[]⟩) rfl (I3.base _ _ (kg ok rfl rfl)) rfl rfl rfl) (by decide) (locs rfl) rfl rfl rfl rfl rfl ?_
    intro L s' env N hcells hfu I' hA'
    refine ks_wpAt_execs_cons ?_
    refine ks_wpAt_Assign_Attr ?_
    refine wpAt_of_wpAny ?_
    repeat (walk_at "st")
    refine setAttr_own I' (.head _) ?_
    intro s1 hh1 tk1 I1
    have I1 := I1.perm (List.Perm.swap _ _ _)
    refine ks_wpAt_execs_cons ?_
    refine ks_wpAt_Expr_any ?_ (by unfold interactive; rw [N.sc]; rfl) (by rfl)
    refine ks_wpAt_MethodCall ?_
    refine superBase I1 N hcells hfu rfl rfl rfl rfl rfl (kg ok rfl rfl) rfl rfl (kg ok rfl rfl) rfl ?_
    intro so s1 I1
    refine superGet (id := "list.__init__") (bt := "method-wrapper") I1 (.tail _ (.head _)) (.head _) (by kernel_rfl) t_init slot_wd entry_wd args_wd (fun hi hp => wd_get o_init hi hp) rfl ?_
    intro q s2 I2
    refine callWith_bo (bt := "method-wrapper") (id := "list.__init__") (x := Lp) (.inr rfl) rfl (evalArgs_nil3 ⟨I2.ob _ (.tail _ (.head _)), ?_⟩)
    refine call_bo (.inr rfl) (I2.ob _ (.tail _ (.head _))) (by decide +kernel) entry_init (wpAny_of_eq (cb_init _) ?_)
    refine init_own I2 ?_
    intro s3 e3 I3
    refine ⟨_, rfl, ?_⟩
    refine wpAt_of_wpAny ?_
    refine wpAny_execs_nil ?_
    refine ⟨rfl, h Lp Dp (oneDict hh1 tk1 (.int 0 345)) e3 _ (pdict1 hh1 tk1 (.int 0 345)) (I3.dropFr.subl ?_)⟩
    exact List.Sublist.cons_cons _ (List.Sublist.cons _ (List.Sublist.cons _ (List.Sublist.refl _)))
end
end

/-! part F10 -/
section
variable {c : Cx} {fs fs' : Fs} {ld ld' : Ld} {s : Shared} {A : Around} {env : Env} {L : Addr} {m : Str → Option Value} {sc : Scope} {cd : Value}
variable {Lp Dp so : Addr} {od : Obj} {items : Array Value} {e : Nat} {n : Nat} {Q : Value → Shared → Prop}
section
variable {prog : Program} {w : World} {E : Value → Shared → Prop}
def IsSeq (h : Heap) (l : Addr) (items : Array Value) : Prop := ∃ o, h.get? l = some o ∧ ∃ n, o.data = .seq items n
theorem IsSeq.at {h h' : Heap} {l : Addr} {items : Array Value} (x : IsSeq h l items) (k : ∀ o, h.get? l = some o → h'.get? l = some o) : IsSeq h' l items := let ⟨o, a, r⟩ := x; ⟨o, k o a, r⟩

theorem next_item {it l : Addr} {i : Nat} {items : Array Value} {x : Value} {Q : Option Value → Shared → Prop} (hit : s.heap.IsListIter it l i) (hl : IsSeq s.heap l items) (hx : items[i]? = some x)
    (hQ : ∀ h', h'.IsListIter it l (i + 1) → Heap.SameBut it s.heap h' → Q (some x) { s with heap := h' }) : wpAny (model prog w) A (pyNext (.ref it)) Q E s := by
  obtain ⟨o, ho, hc, hd⟩ := id hit
  obtain ⟨ol, hol, nl, hdl⟩ := hl
  unfold pyNext
  refine wpAny_bind (wpAny_attempt (wpAny_callSpecial?_slot (name := Str.ofString "__next__") hit.typeIs slot_listiter_next
    (wpAny_call_entry slot_listiter_next hit.typeIs entry_listiter_next ?_ (args_listiter_next _))))
  show wpAny _ _ (field (.ref it) 0 >>= _) _ _ s
  refine wpAny_bind (wpAny_field ho hd (x := .ref l) rfl ?_)
  show wpAny _ _ (if (Value.ref l == Value.none) = true then _ else _) _ _ s
  rw [if_neg (show ¬ ((Value.ref l == Value.none) = true) from Bool.false_ne_true)]
  show wpAny _ _ (field (.ref it) 1 >>= _) _ _ s
  refine wpAny_bind (wpAny_field ho hd (x := .int i 0) rfl ?_)
  show wpAny _ _ (seqItems? (.ref l) >>= _) _ _ s
  refine wpAny_bind (wpAny_seqItems hol hdl ?_)
  simp only [Int.toNat_natCast, hx]
  refine wpAny_bind (wpAny_setField ho hd (by simp) (wpAny_pure ⟨x, rfl, wpAny_pure (hQ _ ?_ (Heap.SameBut.update ..))⟩))
  exact ⟨_, Heap.get?_update_self _ ho (Obj.isFreed_of_fields (Obj.data_mapFields hd _)), (Obj.cls_mapFields ..).trans hc, by
    rw [Obj.data_mapFields hd]; simp [rawInt]⟩

theorem next_end {it l : Addr} {i : Nat} {items : Array Value} {Q : Option Value → Shared → Prop} (hh : A.handled = none) (hit : s.heap.IsListIter it l i) (hl : IsSeq s.heap l items) (hx : items[i]? = none)
    (hQ : ∀ h', Heap.ExtBut it s.heap h' → Q none { s with heap := h' }) : wpAny (model prog w) A (pyNext (.ref it)) Q E s := by
  obtain ⟨o, ho, hc, hd⟩ := id hit
  obtain ⟨ol, hol, nl, hdl⟩ := hl
  unfold pyNext
  refine wpAny_bind (wpAny_attempt (wpAny_callSpecial?_slot (name := Str.ofString "__next__") hit.typeIs slot_listiter_next
    (wpAny_call_entry slot_listiter_next hit.typeIs entry_listiter_next ?_ (args_listiter_next _))))
  show wpAny _ _ (field (.ref it) 0 >>= _) _ _ s
  refine wpAny_bind (wpAny_field ho hd (x := .ref l) rfl ?_)
  show wpAny _ _ (if (Value.ref l == Value.none) = true then _ else _) _ _ s
  rw [if_neg (show ¬ ((Value.ref l == Value.none) = true) from Bool.false_ne_true)]
  show wpAny _ _ (field (.ref it) 1 >>= _) _ _ s
  refine wpAny_bind (wpAny_field ho hd (x := .int i 0) rfl ?_)
  show wpAny _ _ (seqItems? (.ref l) >>= _) _ _ s
  refine wpAny_bind (wpAny_seqItems hol hdl ?_)
  simp only [Int.toNat_natCast, hx]
  refine wpAny_bind (wpAny_rule (wpAny_bind (wpAny_setField ho hd (by simp) ?_)))
  show wpAny _ _ (newExc (.type "StopIteration") [] >>= _) _ _ _
  refine wpAny_bind ?_
  simp only [newExc, newTuple]
  refine wpAny_bind (wpAny_newObj_type ?_ (by size_fits))
  refine wpAny_bind (m := firstArgMember _ _) (wpAny_of_eq (a := Value.none) (by first | rfl | (simp only [firstArgMember]; rfl)) ?_)
  refine wpAny_newObj_type ?_ (by size_fits)
  simp only [raiseNew]
  refine wpAny_bind (wpAny_handled ?_)
  rw [show A.in1.handled = none from hh]
  refine wpAny_bind (wpAny_pure (wpAny_throw ?_))
  refine wpAny_bind (wpAny_isInstance (T := "StopIteration") (b := true) ⟨_, Heap.get?_push_size _ rfl, rfl⟩ isSubtype_stop ?_)
  exact wpAny_pure (hQ _ (((Heap.SameBut.update ..).extBut.push _).push _))

theorem walksPile (hh : A.handled = none) (I ax : Addr) (hne : ax ≠ I) (items : Array Value) (Ts : Nat → Addr) (vals : Nat → Array Value)
    (hit : ∀ j, j < items.size → items[j]? = some (.ref (Ts j))) (hTI : ∀ j, j < items.size → Ts j ≠ I) :
    WalksU prog w A I (I :: ax :: (List.range items.size).map Ts) [I] items.size (fun j v => v = vals j)
      (fun j h => h.IsListIter I ax j ∧ IsSeq h ax items ∧ ∀ k, k < items.size → h.IsTuple (Ts k) (vals k))
      (fun j T h => (j < items.size ∧ T = Ts j) ∧ h.IsListIter I ax (j + 1) ∧ IsSeq h ax items ∧ ∀ k, k < items.size → h.IsTuple (Ts k) (vals k)) where
  sub := fun b hb => by simp at hb; simp [hb]
  frame := fun _ _ _ st hk => ⟨st.1.at fun o e => hk I (by simp) o e, st.2.1.at fun o e => hk ax (by simp) o e,
    fun k hk' => (st.2.2 k hk').at fun o e => hk (Ts k) (List.mem_cons_of_mem _ (List.mem_cons_of_mem _ (List.mem_map.mpr ⟨k, List.mem_range.mpr hk', rfl⟩))) o e⟩
  item := fun i s Q E hi st hQ => by
    refine next_item st.1 st.2.1 (x := .ref (Ts i)) (hit i hi) fun h' hit' hs' => ?_
    have tup : ∀ k, k < items.size → h'.IsTuple (Ts k) (vals k) := fun k hk' => (st.2.2 k hk').extBut hs'.extBut (hTI k hk')
    exact hQ (Ts i) (vals i) h' s.toks rfl (tup i hi) ⟨⟨hi, rfl⟩, hit', st.2.1.at fun o e => hs'.extBut _ o hne e, tup⟩ fun b o hb e => hs'.extBut b o (fun h => hb (by simp [h])) e
  go := fun _ _ _ _ _ s Q _ hm hQ => wpAny_letOwnedTupleGo_listiter hm.2.1 (hQ s.heap hm.2 fun _ _ _ e => e)
  apart := fun j T _ hm hmem => by
    rcases List.mem_cons.mp hmem with e | e
    · exact hTI j hm.1.1 (hm.1.2 ▸ e)
    · cases e
  done := fun s Q E st hQ => next_end hh st.1 st.2.1 (by simp) fun h' he' => hQ h' s.toks fun b o hb e => he' b o (fun h => hb (by simp [h])) e
  self := fun _ _ _ _ st hQ => wpAny_pyIter_listiter st.1 hQ
end

theorem fa_iter : findIn c.K (.ref 148) "__iter__" = some (some (.builtin "list.__iter__")) := by kernel_rfl
theorem iter_own (I : St c fs ((Lp, pileObj Dp items e) :: ld) s) (hD : (Dp, od) ∈ ld)
    (h : Q (.ref s.heap.objs.size) { s with heap := s.heap.push { cls := .type "list_iterator", data := .fields #[.ref Lp, .int 0 0] } }) : wpAny c.MD A (pyIter (.ref Lp)) Q NoE s := by
  have J := I.inst hD
  have L1 := looks_findIn (M := c.MD) I.kx fa_iter
  unfold pyIter specialOf
  refine wpAny_bind (wpAny_bind (J.type.here (L1.here ?_)))
  have hc : wpAny c.MD A (call (.builtin "list.__iter__") [.ref Lp]) (fun it s' => it = .ref s.heap.objs.size ∧ s' = { s with heap := s.heap.push { cls := .type "list_iterator", data := .fields #[.ref Lp, .int 0 0] } }) NoE s := by
    refine call_own (owner := "list") (n := "__iter__") I.kx J slot_list_iter.plain entry_list_iter (.inl (by decide +kernel)) (by decide +kernel) fa_list (args_list_iter _) ?_
    show wpAny _ _ (do ret (← newFields "list_iterator" [.ref Lp, rawInt 0])) _ _ s
    exact wpAny_bind (wpAny_newObj_type (wpAny_pure ⟨_, rfl, rfl, rfl⟩))
  show wpAny c.MD A (callSpecialIfBoundUnlessNone? (.ref Lp) "__iter__" _ >>= _) Q NoE s
  refine wpAny_bind ?_
  simp only [callSpecialIfBoundUnlessNone?, bindSpecialIfBound?, specialOf]
  refine wpAny_holding (wpAny_bind (wpAny_bind (wpAny_bind (J.type.here (L1.here ?_)))))
  simp only [slot_list_iter.bind]
  have fin : wpAny c.MD A (if (Value.builtin "list.__iter__" == Value.none) = true then ((do rule "iter.none"; raiseError "TypeError" s!"'{← typeNameOf (.ref Lp)}' object is not iterable") >>= fun v => pure (some v)) else (call (.builtin "list.__iter__") [.ref Lp] >>= fun v => pure (some v)))
     (fun r s' => r = some (.ref s.heap.objs.size) ∧ s' = { s with heap := s.heap.push { cls := .type "list_iterator", data := .fields #[.ref Lp, .int 0 0] } }) NoE s := by
    rw [if_neg (by decide)]
    exact wpAny_bind (wpAny_mono hc (fun v s' h' => wpAny_pure (by obtain ⟨rfl, rfl⟩ := h'; exact ⟨rfl, rfl⟩)) fun _ _ h' => h')
  have hT : ({ s with heap := s.heap.push { cls := .type "list_iterator", data := .fields #[.ref Lp, .int 0 0] } } : Shared).TypeIs (.ref s.heap.objs.size) "list_iterator" := ⟨_, Heap.get?_push_size _ rfl, rfl⟩
  refine wpAny_bind (wpAny_askSetting (wpAny_ite ?_))
  split
  · refine wpAny_bind (wpAny_pure (wpAny_pure (wpAny_mono fin (fun r s' h' => ?_) fun _ _ z => z.elim)))
    obtain ⟨rfl, rfl⟩ := h'
    exact wpAny_bind (wpAny_bind (wpAny_typeOf hT (wpAny_of_eq slot_listiter_next.lookup (wpAny_pure h))))
  · refine wpAny_tryCatch (wpAny_bind (wpAny_pure (wpAny_pure (wpAny_mono fin (fun r s' h' => ?_) fun _ _ z => z.elim))))
    obtain ⟨rfl, rfl⟩ := h'
    exact wpAny_bind (wpAny_bind (wpAny_typeOf hT (wpAny_of_eq slot_listiter_next.lookup (wpAny_pure h))))
end

/-! part F11 -/
section
variable {c : Cx} {fs fs' : Fs} {ld ld' : Ld} {s : Shared} {A : Around} {env : Env} {L : Addr} {m : Str → Option Value} {sc : Scope} {cd : Value}
variable {Lp Dp so : Addr} {od : Obj} {items : Array Value} {e : Nat} {n : Nat} {Q : Value → Shared → Prop}

theorem callFx {A : Around} {f : Addr} {sl : Array (Option Value)} {fd : FuncData} {body : List Stmt} {args : Args} {binds : List (Str × Value)} {n : Nat} {Q : Value → Shared → Prop}
    (I : St c fs ld s) (hA : AOk (n + 1) A) (hf : c.hb.get? f = some ⟨.type "function", none, .func fd, sl⟩) (hcd : c.hb.CodeRec fd.code fd.qualname)
    (hb : fd.body = .stmts body) (hbind : BindsTo s fd args binds) (hcell : ∀ x ∈ fd.scope.names, x.2 ≠ .cell) (hloc : ∀ x ∈ binds, fd.scope.names.lookup x.1 = some .local)
    (hco : fd.scope.isCoroutine = false) (hgen : fd.scope.isGenerator = false) (hk : fd.scope.kind = .function) (hgl : fd.globals = mainGlobals) (hbl : fd.builtins = builtinsNs)
    (h : ∀ L s' env, EnvIs env L fd.scope fd.code → env.cells = fd.closure → env.qual = fd.qualname ++ ".<locals>." → St c ((L, fun x => binds.reverse.lookup x) :: fs) ld s' → AOk n (A.deeper env) →
      wpAny c.MD (A.deeper env) (execs body env) (fun fl s'' => Q (match fl with | .ret v => v | _ => .none) s'') (fun _ _ => False) s') :
    wpAny c.MD A (call (.ref f) args.pos args.kw) Q (fun _ _ => False) s := by
  refine wpAny_call ?_
  refine codeAny_call_def (fd := fd) (body := body) (binds := binds) (by have := hA.dp; show A.depth < 1000; omega) (I.base _ _ hf) rfl I.lim (hcd.keeps I.base) hb hbind hcell hloc (fun h₀ hns hk' => ?_) hco hgen hk
  exact wpAny_mono (h _ _ _ ⟨rfl, rfl, hgl, hbl, rfl⟩ rfl rfl (I.newFr rfl hns hk') hA.deeper) (fun fl s' x => x) (fun _ _ x => x.elim)

theorem St.ext (I : St c fs ld s) {s' : Shared} (hk : ∀ b o, b ≠ PT → s.heap.get? b = some o → s'.heap.get? b = some o) (ht : ∃ vs, s'.heap.get? PT = some (tableObj vs) ∧ TabOk s'.heap (addrs fs ld) vs) (hg : AllBare s'.gens) (ho : s'.os = s.os) : St c fs ld s' where
  fr := fun p hp => (I.fr p hp).at' fun o e => hk _ o (I.nb _ (List.mem_append.mpr (.inl (List.mem_map.mpr ⟨p, hp, rfl⟩)))).2 e
  ob := fun p hp => hk _ _ (I.nb _ (List.mem_append.mpr (.inr (List.mem_map.mpr ⟨p, hp, rfl⟩)))).2 (I.ob p hp)
  nd := I.nd
  nb := I.nb
  base := fun b o e => hk b o (fun h => by have := I.ok.pt; rw [← h, e] at this; cases this) (I.base b o e)
  tb := ht
  gens := hg
  os := ho.trans I.os
  ok := I.ok

theorem St.extW (I : St c fs ld s) {s' : Shared} {W : List Addr} (hk : ∀ b o, b ∉ W → s.heap.get? b = some o → s'.heap.get? b = some o) (hW : ∀ b ∈ W, b ∉ addrs fs ld ∧ c.hb.get? b = none ∧ b ≠ PT)
    (hc : ∀ c' o, s.heap.get? c' = some o → s.heap.CodeRec (.ref c') (Str.ofString "_Accumulator.__str__.<locals>.<genexpr>") → c' ∉ W) (hg : AllBare s'.gens) (ho : s'.os = s.os) : St c fs ld s' where
  fr := fun p hp => (I.fr p hp).at' fun o e => hk _ o (fun hm => (hW _ hm).1 (List.mem_append.mpr (.inl (List.mem_map.mpr ⟨p, hp, rfl⟩)))) e
  ob := fun p hp => hk _ _ (fun hm => (hW _ hm).1 (List.mem_append.mpr (.inr (List.mem_map.mpr ⟨p, hp, rfl⟩)))) (I.ob p hp)
  nd := I.nd
  nb := I.nb
  base := fun b o e => hk b o (fun h => by have := (hW _ h).2.1; rw [e] at this; cases this) (I.base b o e)
  tb := by
    obtain ⟨vs, e, T⟩ := I.tb
    refine ⟨vs, hk _ _ (fun h => (hW _ h).2.2 rfl) e, ?_⟩
    rcases T with rfl | ⟨c', o, rfl, ho, hc', hp, hr⟩
    · exact .inl rfl
    · have hn := hc c' o ho hr
      refine .inr ⟨c', o, rfl, hk _ _ hn ho, hc', hp, ?_⟩
      obtain ⟨c₂, o₂, vs₂, t₂, e₂, g₂, r₂⟩ := hr
      cases e₂
      exact ⟨_, o₂, vs₂, t₂, rfl, hk _ _ hn g₂, r₂⟩
  gens := hg
  os := ho.trans I.os
  ok := I.ok

theorem mg_bmod (ok : c.Ok) : c.mg (Str.ofString "__builtins__") = some (.ref 4) := ok.mgv _ _ (by kernel_rfl)

theorem genCode_ct {scope : Scope} {q : Str} {ec eo : Nat} {Q : Value → Shared → Prop} (I : St c fs ld s) (hc : env.code = .ref 121) (hq : q = Str.ofString "_Accumulator.__str__.<locals>.<genexpr>")
    (h : ∀ code s', St c fs ld s' → s'.gens = s.gens → s.heap.objs.size ≤ s'.heap.objs.size → (∀ b o, b ≠ PT → s.heap.get? b = some o → s'.heap.get? b = some o) → Q code s') {M : Model} {E : Value → Shared → Prop} :
    wpAny M A (genexprCode env { line := 40, col := 32, endLine := ec, endCol := eo } q scope) Q E s := by
  obtain ⟨vs, hv, T⟩ := I.tb
  have hT : s.heap.TableAt 121 PT vs := ⟨⟨_, _, I.base _ _ (kg I.ok rfl rfl), rfl, rfl, rfl⟩, hv⟩
  have hC : TriplesOk vs.toList → s.heap.IsCode 121 PT vs := fun ht => ⟨_, _, _, _, _, _, _, _, _, _, I.base _ _ (kg I.ok rfl rfl), rfl, rfl, rfl, rfl, rfl, rfl, hv, rfl, ht, by decide⟩
  subst hq
  rcases T with rfl | ⟨c', o, rfl, ho, hn, hp, hr⟩
  · refine wpAny_genexprCodeX hc (hC trivial) hT rfl fun c' h' tk hx hge hlt hcode hrec htab _ => ?_
    refine h _ _ (I.ext (fun b o hb e => hx b o hb e) ⟨_, htab.2, .inr ?_⟩ I.gens rfl) rfl (Nat.le_trans hge (Nat.le_of_lt hlt)) fun b o hb e => hx b o hb e
    obtain ⟨c₂, o₂, vs₂, t₂, e₂, g₂, r₂⟩ := id hrec
    cases e₂
    refine ⟨c', o₂, rfl, g₂, fun hm => Nat.lt_irrefl _ (Nat.lt_of_lt_of_le (I.lt hm) hge), fun he => ?_, hrec⟩
    rw [he] at hge
    exact Nat.lt_irrefl _ (Nat.lt_of_lt_of_le (Heap.lt_size hv) hge)
  · exact wpAny_genexprCode_hit hc (hC trivial) rfl (h _ _ I rfl (Nat.le_refl _) fun _ _ _ e => e)

theorem join2 (x y : Str) : Txt.join "" [x, y] = x ++ y := by
  show Builtin.Str.glued _ _ = _
  rw [StrLaws.glued_eq_join]
  show x ++ Str.ofString "" ++ y = _
  rw [show Str.ofString "" = Str.empty from by kernel_rfl]
  show (⟨(x.cps ++ #[]) ++ y.cps⟩ : Str) = ⟨x.cps ++ y.cps⟩
  simp

/-- the pile's items: pairs of letters -/
structure Holds (ld : Ld) (items : Array Value) (ch : List (Str × Str)) (Ts : Nat → Addr) (vals : Nat → Array Value) : Prop where
  size : items.size = ch.length
  item : ∀ j, j < items.size → items[j]? = some (.ref (Ts j))
  obj : ∀ j, j < items.size → (Ts j, tup (vals j)) ∈ ld
  val : ∀ j p, ch[j]? = some p → ∃ t u, vals j = #[.str p.1 t, .str p.2 u]

def chS (ch : List (Str × Str)) : Str := Txt.join "" (ch.map fun p => Txt.join "" [p.1, p.2])

theorem str_ct (ok : c.Ok) {ch : List (Str × Str)} {Ts : Nat → Addr} {vals : Nat → Array Value} (I : St c fs ((Lp, pileObj Dp items e) :: ld) s) (hA : AOk (n + 3) A) (hD : (Dp, od) ∈ ld) (H : Holds ld items ch Ts vals)
    (h1 : ∀ p ∈ ch, p.1.length = 1 ∧ p.2.length = 1) (hn : ch.length ≤ 1000)
    (h : ∀ s' t, St c fs ((Lp, pileObj Dp items e) :: ld) s' → Q (.str (chS ch) t) s') : wpAny c.MD A (call (.ref 122) [.ref Lp] []) Q NoE s := by
  refine callFx (args := ⟨_, _⟩) I hA (kg ok rfl rfl) ⟨_, _, _, _, rfl, kg ok rfl rfl, rfl, rfl⟩ rfl (BindsTo.of_eq rfl) (by decide) (locs rfl) rfl rfl rfl rfl rfl ?_
  intro L s' env N hcells hq I' hA'
  repeat (walk_at "st")
  refine MethodCall_ ?_
  repeat (walk_at "st")
  refine GM.join ?_
  refine callWith_method1 ?_
  repeat (walk_at "st")
  refine wpAny_GeneratorExp_walksQTD (cl := []) hA'.hh rfl rfl (by decide) rfl rfl rfl (by decide) rfl (by have := hA'.dp; show _ < 1000; omega) ?_ (fun _ => rfl)
  repeat (walk_at "st")
  replace ⟨m0, I'⟩ : ∃ m0, St c ((L, m0) :: fs) ((Lp, pileObj Dp items e) :: ld) s' := ⟨_, I'⟩
  refine iter_own I' hD ?_
  have I2 : St c _ _ { s' with heap := s'.heap.push { cls := .type "list_iterator", data := .fields #[.ref Lp, .int 0 0] } } := I'.same (tk := s'.toks) fun b o e => Heap.get?_push_of_some _ e
  have hit : (s'.heap.push { cls := .type "list_iterator", data := .fields #[.ref Lp, .int 0 0] }).get? s'.heap.objs.size = some { cls := .type "list_iterator", data := .fields #[.ref Lp, .int 0 0] } := Heap.get?_push_size _ rfl
  have hcs : cStatics < s'.heap.objs.size := let ⟨_, hn, _⟩ := I'.lim; hn.lt
  have hsz2 : (s'.heap.push { cls := .type "list_iterator", data := .fields #[.ref Lp, .int 0 0] }).objs.size = s'.heap.objs.size + 1 := Heap.size_push ..
  have hLp : Lp < s'.heap.objs.size := I'.lt (List.mem_append.mpr (.inr (.head _)))
  have hTs : ∀ j, j < items.size → Ts j < s'.heap.objs.size := fun j hj => I'.lt (List.mem_append.mpr (.inr (.tail _ (List.mem_map.mpr ⟨_, H.obj j hj, rfl⟩))))
  have hItP : s'.heap.objs.size ≠ PT := I'.fresh.2.2
  have Ncode := N.code
  have Ngl := N.gl
  have Nsc := N.sc
  have hq' : env.qual ++ Str.ofString "<genexpr>" = Str.ofString "_Accumulator.__str__.<locals>.<genexpr>" := by rw [hq]; rfl
  clear N hcells hq Nsc
  generalize hIt : s'.heap.objs.size = It at *
  generalize hs2 : ({ s' with heap := s'.heap.push { cls := .type "list_iterator", data := .fields #[.ref Lp, .int 0 0] } } : Shared) = s2 at *
  refine ⟨I2.lim, ?_⟩
  refine genCode_ct I2 Ncode hq' ?_
  intro code s3 I3 hg3 hz3 hk3
  have hit2 : s2.heap.get? It = some { cls := .type "list_iterator", data := .fields #[.ref Lp, .int 0 0] } := by rw [← hs2]; exact hit
  have hz2 : It < s3.heap.objs.size := by rw [← hs2] at hz3; dsimp only at hz3; omega
  refine wpAny_builtinsFor (bm := 4) (o := ⟨.type "module", some 0, .plain, #[]⟩) (by rw [Ngl]; exact I3.ok.g.keeps I3.base) (mg_bmod ok) (by decide) (I3.base _ _ (kg ok rfl rfl)) rfl rfl rfl ?_
  refine ⟨It, _, _, _, _, _, _, fun _ => true, fun i y => ∃ p t, ch[i]? = some p ∧ y = .str (Txt.join "" [p.1, p.2]) t, rfl,
    fun A' hA => (walksPile hA It Lp (Nat.ne_of_lt hLp) items Ts vals H.item fun j hj => Nat.ne_of_lt (hTs j hj)).bound, ?_, ?_, ?_, I3.lim, ?_, ?_, ?_⟩
  · rintro i vs ⟨hi, rfl⟩
    obtain ⟨p, hp⟩ : ∃ p, ch[i]? = some p := ⟨_, List.getElem?_eq_getElem (H.size ▸ hi : i < ch.length)⟩
    obtain ⟨t, u, e⟩ := H.val i p hp
    exact ⟨_, _, e⟩
  · refine ⟨⟨_, hk3 _ _ hItP hit2, rfl, rfl⟩, ⟨_, I3.ob _ (.head _), _, rfl⟩, fun k hk => ⟨_, I3.ob _ (.tail _ (H.obj k hk)), rfl, _, rfl⟩⟩
  · intro b hb
    rcases List.mem_cons.mp hb with rfl | hb
    · exact hz2
    · rcases List.mem_cons.mp hb with rfl | hb
      · exact Nat.lt_trans hLp hz2
      · obtain ⟨k, hk, rfl⟩ := List.mem_map.mp hb
        exact Nat.lt_trans (hTs k (List.mem_range.mp hk)) hz2
  · intro hm
    rcases List.mem_cons.mp hm with h | h
    · exact absurd h (Nat.ne_of_lt hcs)
    · cases h
  · intro href hh
    refine ⟨fun A' E' i va vb s₂ m₂ _ _ _ _ _ _ _ _ => wpAny_pure ⟨rfl, _, _, rfl, fun _ _ e => e⟩, ?_⟩
    intro A' E' i va vb s₂ m₂ hh1 hd1 hu1 hP _ hm hva hvb hkp
    obtain ⟨hi, hv⟩ := hP
    obtain ⟨p, hp⟩ : ∃ p, ch[i]? = some p := ⟨_, List.getElem?_eq_getElem (H.size ▸ hi : i < ch.length)⟩
    obtain ⟨t, u, e⟩ := H.val i p hp
    rw [← hv] at e
    have e' : [va, vb] = [Value.str p.1 t, Value.str p.2 u] := congrArg Array.toList e
    simp only [List.cons.injEq, and_true] at e'
    obtain ⟨e1, e2⟩ := e'
    subst e1 e2
    have hbase : ∀ b o, c.hb.get? b = some o → s₂.heap.get? b = some o := fun b o e => by
      have e3 := I3.base _ _ e
      refine hkp b (List.mem_range.mpr (Heap.lt_size e3)) (fun hm => ?_) o (hh _ _ e3)
      rcases List.mem_cons.mp hm with h | h
      · have := (I'.fresh).2.1
        rw [hIt, ← h, e] at this
        cases this
      · cases h
    clear I3 I2 I' hkp
    refine wpAny_mono (E := NoE) ?_ (fun _ _ h => h) (fun _ _ h => h.elim)
    refine MethodCall_ ?_
    refine Name_function_global rfl rfl (loadGlobal_global (by show s₂.heap.Ns env.globals _; rw [Ngl]; exact ok.g.keeps hbase) (mg_EMPTY ok) ?_) (by decide)
    refine GM.join ?_
    refine callWith_method1 ?_
    refine wpAny_items_cons ?_
    refine wpAny_Tuple ?_
    refine wpAny_items_cons ?_
    refine wpAny_Name (wpAny_loadName_local rfl rfl hm hva ?_) (by decide)
    refine wpAny_items_cons ?_
    refine wpAny_Name (wpAny_loadName_local rfl rfl hm hvb ?_) (by decide)
    refine wpAny_items_nil ?_
    refine ⟨Nat.le_of_ble_eq_true rfl, ?_⟩
    refine wpAny_items_nil ?_
    refine join_tuple (ys := [p.1, p.2]) ⟨_, Heap.get?_push_size _ rfl, rfl, _, rfl⟩ (.cons _ _ (.cons _ _ .nil)) ?_ ?_
    · have := h1 p (List.mem_of_getElem? hp)
      have h0 : (Str.ofString "").length = 0 := by kernel_rfl
      simp [this.1, this.2, h0]
    · intro t' k
      exact ⟨⟨p, t', hp, rfl⟩, _, _, rfl, fun b o e => Heap.get?_push_of_some _ e⟩
  · intro a h5 tk gs hgb hag hsz5 hk5 W hat
    refine wpAny_items_nil ?_
    have W := W.in4_2
    have hpass : passing (fun _ => true) items.size 0 = List.range items.size := by simp [passing]
    rw [hpass, List.length_range] at W
    refine SC.joinGen W (fun i s' st => st.1.typeIs) hat ?_ (.head _) ?_ ?_ ?_
    · intro b hb
      show b < h5.objs.size
      rw [hsz5]
      rcases List.mem_cons.mp hb with rfl | hb
      · exact Nat.lt_succ_self _
      · rcases List.mem_cons.mp hb with rfl | hb
        · exact Nat.lt_succ_of_lt hag
        · exact Nat.lt_succ_of_lt (Nat.lt_trans (List.mem_range.mp hb) hag)
    · rintro i v ⟨_, _, p, t, _, rfl⟩
      exact ⟨_, _, rfl⟩
    · intro s5 l hm hacc
      have hl : l.map (·.1) = ch.map fun p => Txt.join "" [p.1, p.2] := by
        obtain ⟨hsz, hv⟩ := hacc
        have hlen : l.length = ch.length := by simpa [strValues, H.size] using hsz
        apply List.ext_getElem?
        intro j
        by_cases hj : j < ch.length
        · obtain ⟨q, hq⟩ : ∃ q, l[j]? = some q := ⟨_, List.getElem?_eq_getElem (hlen ▸ hj)⟩
          obtain ⟨i, hi, p, t, hp, hv'⟩ := hv j (.str q.1 q.2) (by simp [strValues, hq])
          rw [List.getElem?_range (by rw [H.size]; exact hj)] at hi
          cases hi
          simp only [List.getElem?_map, hq, hp, Option.map_some]
          injection hv' with hv' _
          rw [hv']
        · rw [List.getElem?_eq_none (by simp [hlen]; omega), List.getElem?_eq_none (by simp; omega)]
      rw [hl]
      refine ⟨?_, fun t' k => ?_⟩
      · refine joinOk_of ?_
        have h0 : (Str.ofString "").length = 0 := by kernel_rfl
        have hs : ∀ l : List (Str × Str), (∀ p ∈ l, p.1.length = 1 ∧ p.2.length = 1) → ((l.map fun p => Txt.join "" [p.1, p.2]).map (·.length)).sum = 2 * l.length := by
          intro l hl
          induction l with
          | nil => rfl
          | cons p l ih =>
            have e := hl p (.head _)
            simp only [List.map_cons, List.sum_cons, List.length_cons]
            rw [ih fun p hp => hl p (.tail _ hp), join2, Str.length_append, e.1, e.2]
            omega
        rw [hs ch h1, h0]
        omega
      · refine h _ _ ?_
        have hgens : AllBare s5.gens := (I3.gens.push hgb : AllBare (s3.gens.push gs)).movedS hm
        refine St.extW (W := [s3.heap.objs.size, It]) I3.dropFr (fun b o hb e => hm.heap b o hb (hk5 b o e)) ?_ ?_ hgens hm.os
        · have F3 := I3.dropFr.fresh
          have FI := I'.dropFr.fresh
          rw [hIt] at FI
          intro b hb
          rcases List.mem_cons.mp hb with rfl | hb
          · exact F3
          · rcases List.mem_cons.mp hb with rfl | hb
            · exact FI
            · cases hb
        · intro c' o ho hr hm'
          rcases List.mem_cons.mp hm' with rfl | hb
          · exact Nat.lt_irrefl _ (Heap.lt_size ho)
          · rcases List.mem_cons.mp hb with rfl | hb
            · obtain ⟨c₂, o₂, vs₂, t₂, e₂, g₂, r₂, r₃⟩ := hr
              cases e₂
              rw [hk3 _ _ hItP hit2] at g₂
              cases g₂
              cases r₂
              cases r₃
            · cases hb
    · rw [H.size]
      exact Nat.le_trans hn (Nat.le_of_ble_eq_true rfl)
end

/-! part F12 -/
def runIn {α : Type} (K : Frag) : Nat → Sem α → Option α
  | _, .pure a => some a
  | n + 1, .rule _ k => runIn K n (k ())
  | n + 1, .at _ k => runIn K n (k ())
  | n + 1, .point _ k => runIn K n (k ())
  | n + 1, .load a _ k => match K.lookup a with
    | some o => runIn K n (k o)
    | none => none
  | _, _ => none
theorem looks_run {α : Type} {M : Model} {K : Frag} {h : Heap} (X : K.In h) : ∀ (n : Nat) (t : Sem α) {a : α}, runIn K n t = some a → Looks M h t a
  | n, .pure a, _, e => by cases n <;> (cases e; exact .now)
  | n + 1, .rule _ k, _, e => fun A Q E s hk q => nd_rule (looks_run X n (k ()) e A Q E s hk q)
  | n + 1, .at _ k, _, e => fun A Q E s hk q => wpAny_bind (m := PySem.standAt _) (wpAny_standAt (looks_run X n (k ()) e A Q E s hk q))
  | n + 1, .point _ k, _, e => fun A Q E s hk q => nd_point (looks_run X n (k ()) e A Q E s hk q)
  | n + 1, .load a p k, _, e => by
    simp only [runIn] at e
    split at e
    · rename_i o ho
      exact fun A Q E s hk q => nd_load (hk _ _ (X _ _ ho)) (looks_run X n (k o) e A Q E s hk q)
    · cases e
  | 0, .rule _ _, _, e | 0, .at _ _, _, e | 0, .point _ _, _, e | 0, .load _ _ _, _, e => by cases e
  | n, .raise _, _, e | n, .unsupported _, _, e | n, .finish _, _, e | n, .update _ _ _ _, _, e | n, .alloc _ _, _, e | n, .loadIfAlive _ _, _, e | n, .register _ _, _, e | n, .fresh _, _, e | n, .ask _, _, e
  | n, .choose _ _ _, _, e | n, .os _ _ _, _, e | n, .call _ _ _ _ _, _, e | n, .handled _ _, _, e | n, .newGen _ _, _, e | n, .genState _ _, _, e | n, .resume _ _ _ _, _, e | n, .yield _ _ _ _, _, e | n, .stack _, _, e | n, .fork _ _, _, e
  | n, .thread _, _, e | n, .await _ _ _ _ _, _, e => by cases n <;> cases e

section
variable {c : Cx} {fs fs' : Fs} {ld ld' : Ld} {s : Shared} {A : Around} {env : Env} {L : Addr} {m : Str → Option Value} {sc : Scope} {cd : Value}
variable {Lp Dp so : Addr} {od : Obj} {items : Array Value} {e : Nat} {n : Nat} {Q : Value → Shared → Prop}

theorem rCallM {f : Value} {first : List Value} {x : PySem.Expr} {rest : List PySem.Expr} {pos : Pos} {Q : Value → Shared → Prop} (hnr : ∀ a, f ≠ .ref a)
    (h : wpAny c.MD A (spliced (backTo pos (starEach (x :: rest) env))) (fun vs s₁ => wpAny c.MD A (call f (first ++ vs) []) Q NoE s₁) NoE s)
    (he : starEach (x :: rest) env = (false, eval x env) :: starEach rest env := by rfl) (hplain : (backTo pos (starEach rest env)).any (·.1) = false := by rfl) :
    wpAny c.MD A (callWith pos f first (backTo pos (starEach (x :: rest) env)) (backToKw pos (keywordEach [] env))) Q NoE s := by
  rw [he] at h ⊢
  refine callWith_of (P := fun _ => True) (by show ((false || (backTo pos (starEach rest env)).any (·.1)) || false) = false; rw [hplain]; rfl) (fun hh _ => ⟨.machine, .inr (.inl rfl), ?_⟩) (evalArgs_plain (wpAny_mono h (fun vs s₁ z => ⟨trivial, z⟩) fun _ _ z => z))
  unfold keeperOf
  cases f <;> first | exact .now | exact absurd rfl (hnr _)

theorem call_run {prog : Program} {w : World} {E : Value → Shared → Prop} {K : Frag} {id : String} {Bi : Builtin} {args : List Value} {v : Value} {n m : Nat} (X : K.In s.heap) (hp : plainId id = true) (he : entryFor table id = some Bi)
    (hc : runIn K n (checkBuiltinCall id ⟨args, []⟩) = some ()) (hb : runIn K m (Bi ⟨args, []⟩) = some (.done (.ret v))) (h : Q v s) : wpAny (model prog w) A (call (.builtin id) args) Q E s :=
  wpAny_call (codeAny_call_builtin hp he ((looks_run X n _ hc).here ((looks_run X m _ hb).here h)))

def okN : List Nat := [97, 98, 99, 100, 107, 108, 109, 65, 66, 67, 68, 75, 76, 77, 45]
def OkS (x : Str) : Prop := ∃ n ∈ okN, x = ⟨#[n]⟩
theorem sr_name {x : Str} (h : OkS x) (t : Tok) : runIn c.K 100000 (Builtin.«re.Pattern.search» ⟨[.ref 157, .str x t], []⟩) = some (.done (.ret .none)) := by
  obtain ⟨n, hn, rfl⟩ := h
  simp only [okN, List.mem_cons, List.not_mem_nil, or_false] at hn
  rcases hn with rfl | rfl | rfl | rfl | rfl | rfl | rfl | rfl | rfl | rfl | rfl | rfl | rfl | rfl | rfl <;> kernel_rfl
theorem sr_value {x : Str} (h : OkS x) (t : Tok) : runIn c.K 100000 (Builtin.«re.Pattern.search» ⟨[.ref 162, .str x t], []⟩) = some (.done (.ret .none)) := by
  obtain ⟨n, hn, rfl⟩ := h
  simp only [okN, List.mem_cons, List.not_mem_nil, or_false] at hn
  rcases hn with rfl | rfl | rfl | rfl | rfl | rfl | rfl | rfl | rfl | rfl | rfl | rfl | rfl | rfl | rfl <;> kernel_rfl
theorem search_get {a : Addr} (ha : a = 157 ∨ a = 162) (pl : Sem Bool) : runIn c.K 100000 (getMethod (.ref a) "search" pl) = some (.builtin "re.Pattern.search", [.ref a]) := by
  rcases ha with rfl | rfl <;> kernel_rfl
theorem search_chk {a : Addr} (ha : a = 157 ∨ a = 162) (x : Str) (t : Tok) : runIn c.K 100000 (checkBuiltinCall "re.Pattern.search" ⟨[.ref a, .str x t], []⟩) = some () := by
  rcases ha with rfl | rfl <;> kernel_rfl
theorem search_entry : entryFor table "re.Pattern.search" = some Builtin.«re.Pattern.search» := entryFor_of_tree (by kernel_rfl)
theorem truthy_none : runIn c.K 100000 (truthy .none) = some false := by kernel_rfl

theorem convert_ct (ok : c.Ok) (I : St c fs ld s) (hA : AOk (n + 1) A) {x : Str} (hx : OkS x) {t : Tok} (b : Bool) (h : ∀ s', St c fs ld s' → Q (.str x t) s') (Hd : Addr) :
    wpAny c.MD A (call (.ref 184) [.ref Hd, .str x t] [("name", .bool b)]) Q NoE s := by
  refine callF (args := ⟨[.ref Hd, .str x t], [(_, .bool b)]⟩) I hA (kg ok rfl rfl) ⟨_, _, _, _, rfl, kg ok rfl rfl, rfl, rfl⟩ rfl (BindsTo.of_eq rfl) (by decide) (locs rfl) rfl rfl rfl rfl rfl ?_
  intro L s' env N hcells I' hA'
  clear hcells
  repeat (walk_at "st")
  refine rCallM (by intro a; exact nofun) ?_
  repeat (walk_at "st")
  refine call_type_of (Tx := "str") (typeIs_str _ _ _) (by decide) ?_
  repeat (walk_at "st")
  refine wpAny_is_plain (by rfl) ?_
  refine wpAny_truthy_bool ?_
  rw [if_pos (by decide)]
  repeat (walk_at "st")
  refine wpAny_isTrue_value ?_
  repeat (walk_at "st")
  refine wpAny_truthy_bool ?_
  have tail : ∀ a, a = 157 ∨ a = 162 → runIn c.K 100000 (Builtin.«re.Pattern.search» ⟨[.ref a, .str x t], []⟩) = some (.done (.ret .none)) := by
    rintro a (rfl | rfl)
    · exact sr_name hx t
    · exact sr_value hx t
  cases b
  · rw [if_neg (by decide)]
    repeat (walk_at "st")
    refine wpAny_isTrue_value ?_
    refine MethodCall_ ?_
    repeat (walk_at "st")
    refine (looks_run (St.kx (by assumption)) _ _ (search_get (.inr rfl) _)).here ?_
    refine callWith_method1 ?_
    repeat (walk_at "st")
    refine call_run (St.kx (by assumption)) (by decide +kernel) search_entry (search_chk (.inr rfl) _ _) (tail _ (.inr rfl)) ?_
    refine (looks_run (St.kx (by assumption)) _ _ truthy_none).here ?_
    rw [if_neg (by decide)]
    repeat (walk_at "st")
    exact h _ (St.dropFr (by assumption))
  · rw [if_pos (by decide)]
    repeat (walk_at "st")
    refine wpAny_isTrue_value ?_
    refine MethodCall_ ?_
    repeat (walk_at "st")
    refine (looks_run (St.kx (by assumption)) _ _ (search_get (.inl rfl) _)).here ?_
    refine callWith_method1 ?_
    repeat (walk_at "st")
    refine call_run (St.kx (by assumption)) (by decide +kernel) search_entry (search_chk (.inl rfl) _ _) (tail _ (.inl rfl)) ?_
    refine (looks_run (St.kx (by assumption)) _ _ truthy_none).here ?_
    rw [if_neg (by decide)]
    repeat (walk_at "st")
    exact h _ (St.dropFr (by assumption))
end

/-! part F13 -/
section
variable {c : Cx} {fs fs' : Fs} {ld ld' : Ld} {s : Shared} {A : Around} {env : Env} {L : Addr} {m : Str → Option Value} {sc : Scope} {cd : Value}

/-- one turn of an iterator that stands at the ledger's head -/
theorem nextW {I : Addr} {fp : List Addr} {n i : Nat} {P : Nat → Value → Prop} {StW : Nat → Heap → Prop} {oI : Obj} {Q : Option Value → Shared → Prop} {E : Value → Shared → Prop}
    (W : Walks PySem.Challenge.rw_wk0037_01.row.prog c.w A I fp [I] n P StW) (hget : ∀ i h, StW i h → ∃ o, h.get? I = some o)
    (S : St c fs ((I, oI) :: ld) s) (hs : StW i s.heap) (hi : i < n) (h : ∀ v oI' s', P i v → St c fs ((I, oI') :: ld) s' → StW (i + 1) s'.heap → Q (some v) s') : wpAny c.MD A (pyNext (.ref I)) Q E s := by
  refine W.item i s Q E hi hs fun v h' tk hv hst hk => ?_
  obtain ⟨o', ho'⟩ := hget _ _ hst
  exact h v o' _ hv (S.setOb ho' fun b x hb e => hk b x (by simpa using hb) e) hst

theorem endW {I : Addr} {fp : List Addr} {n : Nat} {P : Nat → Value → Prop} {StW : Nat → Heap → Prop} {oI : Obj} {Q : Option Value → Shared → Prop} {E : Value → Shared → Prop}
    (W : Walks PySem.Challenge.rw_wk0037_01.row.prog c.w A I fp [I] n P StW) (S : St c fs ((I, oI) :: ld) s) (hs : StW n s.heap)
    (hcr : ∀ q, ¬ s.heap.CodeRec (.ref I) q)
    (h : ∀ s', St c fs ld s' → Q none s') : wpAny c.MD A (pyNext (.ref I)) Q E s := by
  refine W.done s Q E hs fun h' tk hk => ?_
  have nd := S.nd
  have pm : (addrs fs ((I, oI) :: ld)).Perm (I :: addrs fs ld) := by
    simp only [addrs, List.map_cons]
    exact List.perm_middle
  have nd' := List.nodup_cons.mp (pm.nodup_iff.mp nd)
  have hb := S.nb I (pm.mem_iff.mpr (.head _))
  refine h _ (St.extW (W := [I]) S.drop (s' := { s with heap := h', toks := tk }) (fun b o hb e => hk b o hb e) ?_ ?_ S.gens rfl)
  · intro b hb'
    rcases List.mem_cons.mp hb' with rfl | hb'
    · exact ⟨nd'.1, hb.1, hb.2⟩
    · cases hb'
  · intro c' o ho hr hm
    rcases List.mem_cons.mp hm with rfl | hm
    · exact hcr _ hr
    · cases hm

theorem loopW {R : Result → Shared → Prop} {I : Addr} {fp : List Addr} {n : Nat} {P : Nat → Value → Prop} {StW : Nat → Heap → Prop} {oI : Obj} {cs : Ld} {target : PySem.Expr} {body orelse : List Stmt}
    (hA : A.handled = none) (W : ∀ A' : Around, A'.handled = none → Walks PySem.Challenge.rw_wk0037_01.row.prog c.w A' I fp [I] n P StW)
    (hget : ∀ i h, StW i h → ∃ o, h.get? I = some o) (hcr : ∀ i h q, StW i h → ¬ h.CodeRec (.ref I) q) (hfp : ∀ b ∈ fp, b = I ∨ ∃ o, (b, o) ∈ cs)
    (inv : Nat → (Str → Option Value) → Ld → Prop) (hcs : ∀ i m ld, inv i m ld → ∀ p ∈ cs, p ∈ ld)
    (step : ∀ i v m ld oI s, i < n → P i v → inv i m ld → St c ((L, m) :: fs) ((I, oI) :: ld) s → StW (i + 1) s.heap → wpAny c.MD A (letOwnedTupleGo target (.ref I) v) (fun _ s₁ => wpAny c.MD A (assign target env v) (fun _ s₂ => wpAny c.MD A (execs body env) (fun f s₃ => match f with
        | .next | .cont => ∃ m' ld', inv (i + 1) m' ld' ∧ St c ((L, m') :: fs) ((I, oI) :: ld') s₃
        | .brk => R (.ok .next) s₃
        | .ret v => R (.ok (.ret v)) s₃) NoE s₂) NoE s₁) NoE s)
    (exit : ∀ m ld s, inv n m ld → St c ((L, m) :: fs) ld s → wpAny c.MD A (execs orelse env) (fun f s₃ => R (.ok f) s₃) NoE s)
    (S : St c ((L, m) :: fs) ((I, oI) :: ld) s) (hs : StW 0 s.heap) (h0 : inv 0 m ld) : codeAny c.MD A (.forLoop target (.ref I) body orelse env) R s := by
  refine codeAny_forLoop_any (fun k s => ∃ i m ld oI, k = n + 1 - i ∧ i ≤ n ∧ inv i m ld ∧ St c ((L, m) :: fs) ((I, oI) :: ld) s ∧ StW i s.heap) ?_ (n + 1) ⟨0, m, ld, oI, rfl, Nat.zero_le _, h0, S, hs⟩
  rintro k s ⟨i, m, ld, oI, rfl, hi, hinv, S, hs⟩
  rcases Nat.lt_or_ge i n with hlt | hge
  · refine nextW (W A hA) hget S hs hlt fun v oI' s' hv S' hs' => ?_
    refine wpAny_mono (step i v m ld oI' s' hlt hv hinv S' hs') (fun _ s₁ h₁ => ?_) fun _ _ z => z.elim
    refine wpAny_mono h₁ (fun _ s₂ h₂ => ?_) fun _ _ z => z.elim
    refine wpAny_mono h₂ (fun f s₃ h₃ => ?_) fun _ _ z => z.elim
    have key : (∃ m' ld', inv (i + 1) m' ld' ∧ St c ((L, m') :: fs) ((I, oI') :: ld') s₃) → ∃ k, k < n + 1 - i ∧ ∃ j m ld oI, k = n + 1 - j ∧ j ≤ n ∧ inv j m ld ∧ St c ((L, m) :: fs) ((I, oI) :: ld) s₃ ∧ StW j s₃.heap := by
      rintro ⟨m', ld', hinv', S₃⟩
      refine ⟨n + 1 - (i + 1), by omega, i + 1, m', ld', oI', rfl, hlt, hinv', S₃, ?_⟩
      refine (W A hA).frame _ _ _ hs' fun b hb o e => ?_
      rcases hfp b hb with rfl | ⟨ob, hob⟩
      · rw [S'.ob _ (.head _)] at e
        cases e
        exact S₃.ob _ (.head _)
      · rw [S'.ob _ (.tail _ (hcs _ _ _ hinv _ hob))] at e
        cases e
        exact S₃.ob _ (.tail _ (hcs _ _ _ hinv' _ hob))
    cases f with
    | next => exact key h₃
    | cont => exact key h₃
    | brk => exact h₃
    | ret v => exact h₃
  · obtain rfl : i = n := Nat.le_antisymm hi hge
    refine endW (W A hA) S hs (fun q => hcr _ _ q hs) fun s' S' => ?_
    exact wpAny_mono (exit m ld s' hinv S') (fun _ _ z => z) fun _ _ z => z.elim
end

/-! part F14 -/
section
variable {c : Cx} {fs fs' : Fs} {ld ld' : Ld} {s : Shared} {A : Around} {env : Env} {L : Addr} {m : Str → Option Value} {sc : Scope} {cd : Value}
variable {M : Model} {E : Value → Shared → Prop}

theorem MethodCallKw {o : PySem.Expr} {name : Str} {apos pos : Pos} {args : List PySem.Expr} {kws : List Keyword} {pl : Sem Bool} {Q : Value → Shared → Prop}
    (h : wpAny M A (eval o env) (fun ov s₁ => wpAny M A (getMethod ov name pl) (fun fx s₂ => wpAny M A (callWith pos fx.1 fx.2 (backTo pos (starEach args env)) (backToKw pos (keywordEach kws env))) Q E s₂) E s₁) E s)
    (he : eval (.Call (.Attribute o name apos) args kws pos) env = (do
      let ov ← eval o env
      standAt apos.atName
      let (f, first) ← holding [ov] (getMethod ov name pl)
      callWith pos f first (backTo pos (starEach args env)) (backToKw pos (keywordEach kws env))) := by rfl) :
    wpAny M A (eval (.Call (.Attribute o name apos) args kws pos) env) Q E s := by
  rw [he]
  refine wpAny_bind (wpAny_mono h (fun ov s₁ h₁ => wpAny_bind (wpAny_standAt (wpAny_bind (wpAny_holding (wpAny_mono h₁ (fun fx s₂ h₂ => ?_) fun _ _ x => x))))) fun _ _ x => x)
  exact h₂

theorem evalAll_kw1 {k : Str} {x : PySem.Expr} {pos : Pos} {kp : Pos} {Q : List Value → Shared → Prop} (h : wpAny M A (eval x env) (fun v s₁ => Q [v] s₁) E s) :
    wpAny M A (evalAll ((backToKw pos (keywordEach [⟨some k, x, kp⟩] env)).map (·.2))) Q E s := by
  show wpAny M A ((eval x env >>= fun v => standAt pos >>= fun _ => pure v) >>= fun v => holding [v] (pure []) >>= fun r => pure (v :: r)) Q E s
  refine wpAny_bind (wpAny_bind (wpAny_mono h (fun v s₁ h₁ => ?_) fun _ _ z => z))
  exact wpAny_bind (wpAny_standAt (wpAny_pure (wpAny_bind (wpAny_holding (wpAny_pure (wpAny_pure h₁))))))

/-- a call of a top's def with plain arguments and one keyword -/
theorem rCallKw {f : Addr} {sl : Array (Option Value)} {fd : FuncData} {first : List Value} {e : PySem.Expr} {rest : List PySem.Expr} {k : Str} {x : PySem.Expr} {kp pos : Pos} {Q : Value → Shared → Prop}
    (hf : c.hb.get? f = some ⟨.type "function", none, .func fd, sl⟩)
    (h : wpAny c.MD A (spliced (backTo pos (starEach (e :: rest) env))) (fun vs s₁ => wpAny c.MD A (eval x env) (fun v s₂ => (∃ fs ld, St c fs ld s₂) ∧ wpAny c.MD A (call (.ref f) (first ++ vs) [(k, v)]) Q NoE s₂) NoE s₁) NoE s)
    (he : starEach (e :: rest) env = (false, eval e env) :: starEach rest env := by rfl) :
    wpAny c.MD A (callWith pos (.ref f) first (backTo pos (starEach (e :: rest) env)) (backToKw pos (keywordEach [⟨some k, x, kp⟩] env))) Q NoE s := by
  rw [he] at h ⊢
  refine callWith_function_kw (o := ⟨.type "function", none, .func fd, sl⟩) (fd := fd) (evalArgs_kw rfl (wpAny_mono h (fun vs s₁ x => ?_) fun _ _ x => x))
  refine evalAll_kw1 (wpAny_mono x (fun v s₂ z => ?_) fun _ _ z => z)
  obtain ⟨⟨fs, ld, I⟩, z⟩ := z
  exact ⟨⟨I.base _ _ hf, rfl⟩, z⟩

def lowN (n : Nat) : Nat := if 65 ≤ n ∧ n ≤ 90 then n + 32 else n
theorem lower_eq {n : Nat} (hn : n ∈ okN) : Txt.lower ⟨#[n]⟩ = ⟨#[lowN n]⟩ := by
  simp only [okN, List.mem_cons, List.not_mem_nil, or_false] at hn
  rcases hn with rfl | rfl | rfl | rfl | rfl | rfl | rfl | rfl | rfl | rfl | rfl | rfl | rfl | rfl | rfl <;> kernel_rfl
theorem lowN_ok {n : Nat} (hn : n ∈ okN) : lowN n ∈ okN := by
  revert n; decide
theorem lower_ok {x : Str} (h : OkS x) : OkS (Txt.lower x) := by
  obtain ⟨n, hn, rfl⟩ := h
  exact ⟨lowN n, lowN_ok hn, lower_eq hn⟩
theorem okS_len {x : Str} (h : OkS x) : x.length = 1 := by obtain ⟨n, _, rfl⟩ := h; rfl

abbrev dealsO (Dd : Addr) : Obj := instObj 285 Dd
abbrev listO (items : Array Value) (e : Nat) : Obj := { cls := .type "list", data := .seq items e }
def DDict (dd : Obj) (Ll : Addr) : Prop := lookIn "_headers" dd = some (some (.ref Ll)) ∧ ∀ name : Str, (name == ("_headers" : Str)) = false → lookIn name dd = some none
structure Deals (ld : Ld) (Hd Dd : Addr) (dd : Obj) (Ll : Addr) (items : Array Value) (e : Nat) (g : List (Str × Str)) (Ts : Nat → Addr) (vals : Nat → Array Value) : Prop where
  ob : (Hd, dealsO Dd) ∈ ld
  dc : (Dd, dd) ∈ ld
  dd : DDict dd Ll
  ls : (Ll, listO items e) ∈ ld
  hs : Holds ld items g Ts vals
  ok : ∀ p ∈ g, OkS p.1 ∧ OkS p.2
  len : g.length ≤ 100

variable {Hd Dd : Addr} {dd : Obj} {Ll : Addr} {items : Array Value} {e : Nat} {g : List (Str × Str)} {Ts : Nat → Addr} {vals : Nat → Array Value} {n : Nat} {Q : Value → Shared → Prop}
theorem Deals.inst (D : Deals ld Hd Dd dd Ll items e g Ts vals) (I : St c fs ld s) : InstAt s.heap Hd (dealsO Dd) 285 (some dd) := ⟨I.ob _ D.ob, rfl, rfl, I.ob _ D.dc⟩
theorem DDict.sh (h : DDict dd Ll) {name : Str} (hn : (name == ("_headers" : Str)) = false) : shadowIn (some dd) name = some false := by
  show (lookIn name dd).map _ = _
  rw [h.2 name hn]; rfl
theorem fh_ga : findIn c.K (.ref 285) "__getattribute__" = some (some (.builtin "object.__getattribute__")) := by kernel_rfl
theorem fh_gt : findIn c.K (.ref 285) "__getattr__" = some none := by kernel_rfl
theorem fh_conv : findIn c.K (.ref 285) "_convert_string_type" = some (some (.ref 184)) := by kernel_rfl


theorem listIter_no {h : Heap} {I l : Addr} {i : Nat} (x : h.IsListIter I l i) (q : Str) : ¬ h.CodeRec (.ref I) q := by
  rintro ⟨c₂, o₂, vs₂, t₂, e₂, g₂, r₂, r₃⟩
  obtain ⟨o, ho, _, hd⟩ := x
  cases e₂
  rw [ho] at g₂
  cases g₂
  rw [hd] at r₂
  cases r₂
  cases r₃

theorem rAssign2 {T : Addr} {a b : Value} {x y : Str} {px py pos : Pos} {k : Nat} {Q : Unit → Shared → Prop} (hh : A.handled = none) (I : St c ((L, m) :: fs) ld s) (N : EnvIs env L sc cd) (hk : sc.kind = .function)
    (hx : sc.names.lookup x = some .local) (hy : sc.names.lookup y = some .local) (hT : (T, tup #[a, b]) ∈ ld) (h : ∀ s', St c ((L, upd (upd m x a) y b) :: fs) ld s' → Q () s') :
    wpAny c.MD A (assign (.Tuple [.Name x px, .Name y py] k pos) env (.ref T)) Q NoE s := by
  refine wpAny_assign_Tuple hh ⟨_, I.ob _ hT, rfl, _, rfl⟩ rfl rfl fun h' hx' => ?_
  have I1 := I.same (tk := s.toks) (h' := h') fun b o e => hx' b o (Nat.ne_of_lt (Heap.lt_size e)) e
  show wpAny _ _ (do holding [b] (assign (.Name x px) env a); do holding [] (assign (.Name y py) env b); pure ()) _ _ _
  refine wpAny_bind (wpAny_holding (wpAny_assign_Name (rStore I1 N hk hx fun s1 I2 => ?_)))
  exact wpAny_bind (wpAny_holding (wpAny_assign_Name (rStore I2 N hk hy fun s2 I3 => wpAny_pure (h _ I3))))

/-- a loop over a list of the ledger; the ledger stays -/
theorem rForList {target iter : PySem.Expr} {body : List Stmt} {pos : Pos} {Ll : Addr} {items : Array Value} {e : Nat} {Q : Flow → Shared → Prop} (hA : A.handled = none) (inv : Nat → (Str → Option Value) → Prop)
    (hgo : (∃ x p, target = .Name x p) ∨ ((∃ elts k p, target = .Tuple elts k p) ∧ ∀ (i : Nat) (v : Value), items[i]? = some v → ∃ T, v = .ref T)) (hl : (Ll, listO items e) ∈ ld) (hs : ∀ x, foldedSetIterable iter env x = pure x)
    (hiter : wpAny c.MD A (eval iter env) (fun x s₁ => x = .ref Ll ∧ ∃ m, St c ((L, m) :: fs) ld s₁ ∧ inv 0 m) NoE s)
    (step : ∀ i v m Ia oI s, items[i]? = some v → inv i m → St c ((L, m) :: fs) ((Ia, oI) :: ld) s → wpAny c.MD A (assign target env v) (fun _ s₂ => wpAny c.MD A (execs body env) (fun f s₃ => match f with
        | .next | .cont => ∃ m', inv (i + 1) m' ∧ St c ((L, m') :: fs) ((Ia, oI) :: ld) s₃
        | .brk => Q .next s₃
        | .ret v => Q (.ret v) s₃) NoE s₂) NoE s)
    (exit : ∀ m s, inv items.size m → St c ((L, m) :: fs) ld s → Q .next s) : wpAny c.MD A (exec (.For target iter body [] pos) env) Q NoE s := by
  refine wpAny_For (wpAny_mono hiter (fun x s₁ h₁ => ?_) fun _ _ z => z) hs
  obtain ⟨rfl, m, I, hi⟩ := h₁
  refine wpAny_pyIter_list ⟨_, I.ob _ hl, rfl, _, rfl⟩ ?_
  have I1 := I.new (tk := s₁.toks) (o := { cls := .type "list_iterator", data := .fields #[.ref Ll, .int 0 0] }) rfl (Heap.get?_push_size _ rfl) fun b o e => Heap.get?_push_of_some _ e
  have hne : Ll ≠ s₁.heap.objs.size := Nat.ne_of_lt (I.lt (List.mem_append.mpr (.inr (List.mem_map.mpr ⟨_, hl, rfl⟩))))
  have hk : ∀ (r : Result) s', (match r with | .ok f => Q f s' | .error _ => False) → (match r with | .ok f => Q f s' | .error e => cameBackBy c.MD A env NoE e s') := fun r s' z => by
    cases r with
    | ok f => exact z
    | error e => exact z.elim
  refine codeAny_mono ?_ hk
  refine loopW (cs := ld) hA (fun A' hA' => Walks.list hA' s₁.heap.objs.size Ll hne items) (fun i h x => let ⟨o, ho, _⟩ := x.1; ⟨o, ho⟩) (fun i h q x => listIter_no x.1 q) ?_ (fun i m ld' => ld' = ld ∧ inv i m) ?_ ?_ ?_ I1 ?_ ⟨rfl, hi⟩
  · intro b hb
    rcases List.mem_cons.mp hb with rfl | hb
    · exact .inl rfl
    · rcases List.mem_cons.mp hb with rfl | hb
      · exact .inr ⟨_, hl⟩
      · cases hb
  · rintro i m ld' ⟨rfl, _⟩ p hp; exact hp
  · rintro i v m ld' oI s hlt hv ⟨rfl, hi⟩ S hs
    have fin : ∀ {t : Sem Unit}, wpAny c.MD A t (fun _ s₁ => s₁ = s) NoE s → wpAny c.MD A t (fun _ s₁ => wpAny c.MD A (assign target env v) (fun _ s₂ => wpAny c.MD A (execs body env) (fun f s₃ => match f with
        | .next | .cont => ∃ m' ld'', (ld'' = ld' ∧ inv (i + 1) m') ∧ St c ((L, m') :: fs) ((_, oI) :: ld'') s₃
        | .brk => Q .next s₃
        | .ret v => Q (.ret v) s₃) NoE s₂) NoE s₁) NoE s := fun ht => by
      refine wpAny_mono ht (fun _ s₁ e => ?_) fun _ _ z => z
      subst e
      refine wpAny_mono (step i v m _ oI _ hv hi S) (fun _ s₂ h₂ => wpAny_mono h₂ (fun f s₃ h₃ => ?_) fun _ _ z => z) fun _ _ z => z
      have key : ∀ {J : Addr}, (∃ m', inv (i + 1) m' ∧ St c ((L, m') :: fs) ((J, oI) :: ld') s₃) → ∃ m' ld'', (ld'' = ld' ∧ inv (i + 1) m') ∧ St c ((L, m') :: fs) ((J, oI) :: ld'') s₃ := fun ⟨m', a, b⟩ => ⟨m', ld', ⟨rfl, a⟩, b⟩
      cases f with
      | next => exact key h₃
      | cont => exact key h₃
      | brk => exact h₃
      | ret v => exact h₃
    refine fin ?_
    rcases hgo with ⟨x, p, rfl⟩ | ⟨⟨elts, k, p, rfl⟩, hr⟩
    · exact wpAny_pure rfl
    · obtain ⟨T, rfl⟩ := hr i v hv
      exact wpAny_letOwnedTupleGo_listiter hs.1 rfl
  · rintro m ld' s ⟨rfl, hi⟩ S
    exact wpAny_execs_nil (exit m s hi S)
  · exact ⟨⟨_, Heap.get?_push_size _ rfl, rfl, rfl⟩, ⟨_, I1.ob _ (.tail _ hl), rfl, _, rfl⟩⟩

theorem str_beq (x y : Str) : (x == y) = (x.cps.toList == y.cps.toList) := by
  rw [Bool.eq_iff_iff, beq_iff_eq, beq_iff_eq]
  refine ⟨fun h => by rw [h], fun h => ?_⟩
  obtain ⟨⟨x⟩⟩ := x
  obtain ⟨⟨y⟩⟩ := y
  have h : x = y := h
  rw [h]
theorem find_first {α : Type} {l : List α} {f : α → Bool} {i : Nat} {p : α} (hp : l[i]? = some p) (hf : f p = true) (hj : ∀ j p, j < i → l[j]? = some p → f p = false) : l.find? f = some p := by
  obtain ⟨hi, rfl⟩ := List.getElem?_eq_some_iff.mp hp
  refine List.find?_eq_some_iff_getElem.mpr ⟨hf, i, hi, rfl, fun j hji => ?_⟩
  rw [hj j _ hji (List.getElem?_eq_getElem (by omega))]; rfl
theorem find_not {α : Type} {l : List α} {f : α → Bool} (hj : ∀ j p, j < l.length → l[j]? = some p → f p = false) : l.find? f = none := by
  refine List.find?_eq_none.mpr fun x hx => ?_
  obtain ⟨j, hjl, rfl⟩ := List.mem_iff_getElem.mp hx
  rw [hj j _ hjl (List.getElem?_eq_getElem hjl)]; decide

theorem codeF {A : Around} {f : Addr} {sl : Array (Option Value)} {fd : FuncData} {body : List Stmt} {args : Args} {binds : List (Str × Value)} {n : Nat} {Q : Value → Shared → Prop}
    (I : St c fs ld s) (hA : AOk (n + 1) A) (hf : c.hb.get? f = some ⟨.type "function", none, .func fd, sl⟩) (hcd : c.hb.CodeRec fd.code fd.qualname)
    (hb : fd.body = .stmts body) (hbind : BindsTo s fd args binds) (hcell : ∀ x ∈ fd.scope.names, x.2 ≠ .cell) (hloc : ∀ x ∈ binds, fd.scope.names.lookup x.1 = some .local)
    (hco : fd.scope.isCoroutine = false) (hgen : fd.scope.isGenerator = false) (hk : fd.scope.kind = .function) (hgl : fd.globals = mainGlobals) (hbl : fd.builtins = builtinsNs)
    (h : ∀ L s' env, EnvIs env L fd.scope fd.code → env.cells = fd.closure → St c ((L, fun x => binds.reverse.lookup x) :: fs) ld s' → AOk n (A.deeper env) →
      wpAny c.MD (A.deeper env) (execs body env) (fun fl s'' => Q (match fl with | .ret v => v | _ => .none) s'') (fun _ _ => False) s') :
    codeAny c.MD A (.call (.ref f) args) (fun r s' => match r with | .ok (.ret v) => Q v s' | .ok _ => False | .error e => NoE e s') s := by
  refine codeAny_call_def (fd := fd) (body := body) (binds := binds) (by have := hA.dp; show A.depth < 1000; omega) (I.base _ _ hf) rfl I.lim (hcd.keeps I.base) hb hbind hcell hloc (fun h₀ hns hk' => ?_) hco hgen hk
  exact wpAny_mono (h _ _ _ ⟨rfl, rfl, hgl, hbl, rfl⟩ rfl (I.newFr rfl hns hk') hA.deeper) (fun fl s' x => x) (fun _ _ x => x.elim)

theorem get_code (ok : c.Ok) (I : St c fs ld s) (hA : AOk (n + 2) A) (D : Deals ld Hd Dd dd Ll items e g Ts vals) {q : Str} (hq : OkS q) {t : Tok} {dv : Value}
    (h1 : ∀ p t s', g.find? (fun p => Txt.lower p.1 == Txt.lower q) = some p → St c fs ld s' → Q (.str p.2 t) s') (h2 : g.find? (fun p => Txt.lower p.1 == Txt.lower q) = none → ∀ s', St c fs ld s' → Q dv s') :
    codeAny c.MD A (.call (.ref 232) ⟨[.ref Hd, .str q t], [(Str.ofString "default", dv)]⟩) (fun r s' => match r with | .ok (.ret v) => Q v s' | .ok _ => False | .error e => NoE e s') s := by
  refine codeF (args := ⟨[.ref Hd, .str q t], [(_, dv)]⟩) I hA (kg ok rfl rfl) ⟨_, _, _, _, rfl, kg ok rfl rfl, rfl, rfl⟩ rfl (BindsTo.of_defaults (o := ⟨.type "tuple", none, .seq #[.none] 0, #[]⟩) rfl (I.base _ _ (kg ok rfl rfl)) rfl rfl rfl) (by decide) (locs rfl) rfl rfl rfl rfl rfl ?_
  intro L s' env N hcells I' hA'
  clear hcells
  repeat (walk_at "st")
  refine MethodCallKw ?_
  repeat (walk_at "st")
  refine method_f2 (St.kx (by assumption)) (D.inst (by assumption)) fh_ga PySem.F.canon_object_ga fh_gt fh_conv (by kernel_rfl) (D.dd.sh rfl) ?_
  refine rCallKw (kg ok rfl rfl) ?_
  repeat (walk_at "st")
  refine MethodCall_ ?_
  repeat (walk_at "st")
  refine GM.lower ?_
  refine callWith_method0 ?_
  refine SCL.lower (by rw [okS_len hq]; decide) ?_
  intro _
  replace I' := I'.tok (tk := s'.toks + 1)
  repeat (walk_at "st")
  refine ⟨⟨_, _, I'⟩, ?_⟩
  refine convert_ct ok I' hA' (lower_ok hq) true ?_ Hd
  clear I'
  intro s1 I1
  repeat (walk_at "st")
  refine rForList (L := L) (fs := fs) hA'.hh (fun i m' => m' "self" = some (.ref Hd) ∧ m' "name" = some (.str (Txt.lower q) s'.toks) ∧ m' "default" = some dv ∧ ∀ j p, j < i → g[j]? = some p → (Txt.lower p.1 == Txt.lower q) = false) (.inr ⟨⟨_, _, _, rfl⟩, ?_⟩) D.ls (fun _ => rfl) ?_ ?_ ?_
  · intro i v hv
    obtain ⟨hi, rfl⟩ := Array.getElem?_eq_some_iff.mp hv
    have := D.hs.item i hi
    rw [hv] at this
    exact ⟨_, Option.some.inj this⟩
  · refine Attribute_Name_ ?_
    repeat (walk_at "st")
    refine get_value (St.kx (by assumption)) (D.inst (by assumption)) fh_ga (findObj_own (attr := none) (by kernel_rfl) (by kernel_rfl) rfl D.dd.1) rfl ⟨rfl, _, St.tok (by assumption), ?_⟩
    refine ⟨by walk_at "lk", by walk_at "lk", by walk_at "lk", fun j p hj => by omega⟩
  · rintro i v m Ia oI s3 hv ⟨hm1, hm2, hm3, hj⟩ I3
    obtain ⟨hi, e1⟩ := Array.getElem?_eq_some_iff.mp hv
    have e2 := D.hs.item i hi
    rw [hv] at e2
    cases Option.some.inj e2
    obtain ⟨p, hp⟩ : ∃ p, g[i]? = some p := ⟨_, List.getElem?_eq_getElem (D.hs.size ▸ hi : i < g.length)⟩
    obtain ⟨t1, u1, ev⟩ := D.hs.val i p hp
    have hob := D.hs.obj i hi
    rw [ev] at hob
    have okp := D.ok p (List.mem_of_getElem? hp)
    refine rAssign2 hA'.hh I3 N rfl rfl rfl (.tail _ hob) ?_
    intro s4 I4
    repeat (walk_at "st")
    refine MethodCall_ ?_
    repeat (walk_at "st")
    refine GM.lower ?_
    refine callWith_method0 ?_
    refine SCL.lower (by rw [okS_len okp.1]; decide) ?_
    intro _
    replace I4 := I4.tok (tk := s4.toks + 1)
    repeat (walk_at "st")
    refine eq_str ?_
    refine wpAny_truthy_bool ?_
    cases hb : Txt.lower p.1 == Txt.lower q
    · rw [if_neg (by decide)]
      repeat (walk_at "st")
      refine ⟨_, ?_, I4⟩
      refine ⟨by walk_at "lk", by walk_at "lk", by walk_at "lk", fun j p' hj' hp' => ?_⟩
      rcases Nat.lt_succ_iff_lt_or_eq.mp hj' with h | rfl
      · exact hj j p' h hp'
      · rw [hp] at hp'
        cases hp'
        exact hb
    · rw [if_pos rfl]
      repeat (walk_at "st")
      exact h1 p _ _ (find_first hp hb hj) (I4.drop.dropFr)
  · rintro m3 s3 ⟨hm1, hm2, hm3, hj⟩ I3
    repeat (walk_at "st")
    refine h2 (find_not fun j p hj' hp => hj j p (by rw [D.hs.size]; exact hj') hp) _ I3.dropFr
end

/-! part F15 -/
section
variable {c : Cx} {fs fs' : Fs} {ld ld' : Ld} {s : Shared} {A : Around} {env : Env} {L : Addr} {m : Str → Option Value} {sc : Scope} {cd : Value}

abbrev oneD (name : Str) (hh : Int) (tk : Tok) (v : Value) : Obj := { cls := .type "dict", data := .dict #[⟨hh, .str name tk, v⟩] 1 }
theorem putE (name : Str) (hh : Int) (k v : Value) : Obj.putName name hh k v emptyDict = { cls := .type "dict", data := .dict #[⟨hh, k, v⟩] 1 } := rfl

theorem rNsSet0 {D : Addr} {name : Str} {v : Value} {E : Value → Shared → Prop} {Q : Unit → Shared → Prop} (I : St c fs ((D, emptyDict) :: ld) s)
    (h : ∀ s' hh tk, St c fs ((D, oneD name hh tk v) :: ld) s' → Q () s') : wpAny c.MD A (nsSet D name v) Q E s := by
  have D' := I.ob _ (.head _)
  obtain ⟨hp, g, d, t, os⟩ := s
  unfold nsSet
  refine wpAny_bind (wpAny_bind (wpAny_askSetting (wpAny_pure (wpAny_bind (wpAny_mkText (wpAny_bind (wpAny_loadPart D' ?_)))))))
  dsimp only
  have cc : (!(#[] : Array DictEntry).any (·.key.isStr name) && (#[] : Array DictEntry).any (·.refKey)) = false := by simp
  rw [aRefKeyMayBeTheName_at, cc]
  refine wpAny_updatePart D' ?_
  exact h _ _ _ (I.setOb (tk := t + 1) (by rw [Heap.get?_update_self _ D' (by rw [putE]; rfl), putE]) fun b x hb hx => (Heap.SameBut.update ..).extBut b x hb hx)

theorem wpAny_eqTree {α : Type} {M : Model} {A : Around} {E : Value → Shared → Prop} {s : Shared} {t t' : Sem α} {Q : α → Shared → Prop} (h : wpAny M A t' Q E s) (e : t = t') : wpAny M A t Q E s := e ▸ h
theorem callFG {A : Around} {f : Addr} {sl : Array (Option Value)} {fd : FuncData} {body : List Stmt} {args : Args} {n : Nat} {Q : Value → Shared → Prop}
    (I : St c fs ld s) (hA : AOk (n + 1) A) (hf : c.hb.get? f = some ⟨.type "function", none, .func fd, sl⟩) (hcd : c.hb.CodeRec fd.code fd.qualname)
    (hb : fd.body = .stmts body) (hcell : ∀ x ∈ fd.scope.names, x.2 ≠ .cell)
    (hco : fd.scope.isCoroutine = false) (hgen : fd.scope.isGenerator = false) (hk : fd.scope.kind = .function) (hgl : fd.globals = mainGlobals) (hbl : fd.builtins = builtinsNs)
    (h : wpAny c.MD A.in1 (bindArgs fd args) (fun binds s₁ => ∃ ld', St c fs ld' s₁ ∧ (∀ x ∈ binds, fd.scope.names.lookup x.1 = some .local) ∧
      ∀ L s' env, EnvIs env L fd.scope fd.code → env.cells = fd.closure → St c ((L, fun x => binds.reverse.lookup x) :: fs) ld' s' → AOk n (A.deeper env) →
      wpAny c.MD (A.deeper env) (execs body env) (fun fl s'' => Q (match fl with | .ret v => v | _ => .none) s'') (fun _ _ => False) s') NoE s) :
    wpAny c.MD A (call (.ref f) args.pos args.kw) Q NoE s := by
  refine wpAny_call ?_
  refine codeAny_call_function (body := body) (by have := hA.dp; show A.depth < 1000; omega) (I.base _ _ hf) rfl hco hgen hb (hcd.keeps I.base) (wpAny_mono h (fun binds s₁ z => ?_) fun _ _ z => z.elim)
  obtain ⟨ld', I1, hloc, z⟩ := z
  refine wpAny_newFunctionEnv hcell hloc (fun h₀ hns₀ hsb₀ => ⟨I1.lim.fresh _ hsb₀, codeAny_func ?_⟩) hk
  have hk' : ∀ b o, s₁.heap.get? b = some o → h₀.get? b = some o := fun b o e => hsb₀.extBut b o (Nat.ne_of_lt (Heap.lt_size e)) (Heap.get?_push_of_some _ e)
  exact wpAny_mono (z _ _ _ ⟨rfl, rfl, hgl, hbl, rfl⟩ rfl (I1.newFr rfl hns₀ hk') hA.deeper) (fun fl s' x => x) (fun _ _ x => x.elim)

theorem l_iter : typeLookup (.type "dict") "__iter__" = pure (some (.builtin "dict.__iter__")) := by rw [typeLookup_type, builtinLookup_eq_fast]; kernel_rfl
theorem sub_dd : isSubtype (.type "dict") (.type "dict") = pure true := by rw [isSubtype_type]; kernel_rfl
theorem merged {M : Model} {A : Around} {E : Value → Shared → Prop} {hp : Heap} {g : Array GenState} {d : Drawn} {t : Nat} {os : OsState} {f : Value} {X : Addr} {name : Str} {hh : Int} {tk : Tok} {v : Value} {x : Sem Value} {Q : Addr → Shared → Prop}
   (hX : hp.get? X = some (oneD name hh tk v)) (hs : (X == sysModules) = false) (hx : ∀ {s : Shared} {Q : Value → Shared → Prop}, (∀ b o, hp.get? b = some o → s.heap.get? b = some o) → Q (.ref X) s → wpAny M A x Q E s)
   (h : ∀ h', (∀ b o, hp.get? b = some o → h'.get? b = some o) → (∃ e, h'.get? hp.objs.size = some { cls := .type "dict", data := .dict #[⟨hh, .str name tk, v⟩] e }) → Q hp.objs.size ⟨h', g, d, t, os⟩) :
   wpAny M A (mergedKeywords f [(none, x)]) Q E ⟨hp, g, d, t, os⟩ := by
  have h1 := l_iter
  have h2 := sub_dd
  have hX' : ∀ o, (hp.push o).get? X = some (oneD name hh tk v) := fun o => Heap.get?_push_of_some _ hX
  have hT : ∀ o, (⟨hp.push o, g, d, t, os⟩ : Shared).TypeIs (.ref X) "dict" := fun o => ⟨_, hX' o, rfl⟩
  unfold mergedKeywords
  repeat (first | wp_step)
  refine hx (fun b o e => Heap.get?_push_of_some _ e) ?_
  have hXX := hX' { cls := .type "dict", data := .dict #[] }
  have hTT := hT { cls := .type "dict", data := .dict #[] }
  have hN : (hp.push { cls := .type "dict", data := .dict #[] }).get? hp.objs.size = some { cls := .type "dict", data := .dict #[] } := Heap.get?_push_size _ rfl
  refine wpAny_bind (wpAny_onRaise (wpAny_holding (wpAny_tryCatch (wpAny_onRaise ?_))))
  unfold mergeMapping
  refine wpAny_bind (wpAny_isInstance hTT h2 ?_)
  rw [if_pos rfl]
  refine wpAny_bind (wpAny_specialOf hTT h1 ?_)
  rw [show (some (Value.builtin "dict.__iter__") == some (Value.builtin "dict.__iter__")) = true from by decide]
  refine wpAny_bind (wpAny_pure ?_)
  dsimp only
  rw [hs, if_neg (by decide)]
  refine wpAny_bind (wpAny_dictEntries hN rfl ?_)
  rw [if_pos (by decide)]
  refine wpAny_bind (wpAny_dictEntries hXX rfl ?_)
  repeat (first | wp_step)
  have hf : Array.findIdx? (fun x : DictEntry => x.key.isStr name) #[] = none := by simp
  rw [hf]
  repeat (first | wp_step)
  rw [hf]
  repeat (first | wp_step)
  have hne : X ≠ hp.objs.size := Nat.ne_of_lt (Heap.lt_size hX)
  have hXu : ∀ F, ((hp.push { cls := .type "dict", data := .dict #[] }).update hp.objs.size F).get? X = some (oneD name hh tk v) := fun F => ((Heap.SameBut.update ..).2 X hne).trans hXX
  refine wpAny_loadPart (hXu _) ?_
  repeat (first | wp_step)
  refine h _ ?_ ?_
  · intro b o e
    exact (Heap.SameBut.update ..).extBut b o (Nat.ne_of_lt (Heap.lt_size e)) (Heap.get?_push_of_some _ e)
  · exact ⟨_, Heap.get?_update_self _ hN rfl⟩

theorem kwIn {M : Model} {A : Around} {E : Value → Shared → Prop} {s : Shared} {f : Value} {D : Addr} {name : Str} {hh : Int} {tk : Tok} {v : Value} {e : Nat} {Q : List (Str × Value) → Shared → Prop}
   (hD : s.heap.get? D = some { cls := .type "dict", data := .dict #[⟨hh, .str name tk, v⟩] e }) (h : Q [(name, v)] s) : wpAny M A (keywordsIn f D) Q E s := by
  obtain ⟨hp, g, d, t, os⟩ := s
  unfold keywordsIn
  refine wpAny_bind (wpAny_dictEntries hD rfl ?_)
  repeat (first | wp_step)
  exact h

theorem evalArgs_star {M : Model} {A : Around} {E : Value → Shared → Prop} {s : Shared} {f : Value} {x : Sem Value} {rest : List (Bool × Sem Value)} {kws : List (Option Str × Sem Value)} {Q : Args → Shared → Prop} (hall : kws.all (·.1.isSome) = false)
    (h : wpAny M A (spliced ((false, x) :: rest)) (fun vs s₁ => wpAny M A (mergedKeywords f kws) (fun d s₂ => wpAny M A (keywordsIn f d) (fun kw s₃ => Q ⟨vs, kw⟩ s₃) E s₂) E s₁) E s) : wpAny M A (evalArgs f true ((false, x) :: rest) kws) Q E s := by
  unfold evalArgs
  show wpAny M A (spliced ((false, x) :: rest) >>= _) Q E s
  refine wpAny_bind (wpAny_mono h (fun vs s₁ h₁ => ?_) fun _ _ x => x)
  refine wpAny_holding ?_
  simp only [hall, Bool.false_eq_true, if_false]
  refine wpAny_bind (wpAny_mono h₁ (fun d s₂ h₂ => ?_) fun _ _ x => x)
  refine wpAny_bind (wpAny_pure ?_)
  exact wpAny_bind (wpAny_holding (wpAny_mono h₂ (fun kw s₃ h₃ => wpAny_pure h₃) fun _ _ z => z))

theorem evalArgs_star2 {M : Model} {A : Around} {E : Value → Shared → Prop} {s : Shared} {f : Value} {x : PySem.Expr} {rest : List PySem.Expr} {pos : Pos} {kws : List (Option Str × Sem Value)} {Q : Args → Shared → Prop} (hall : kws.all (·.1.isSome) = false)
    (h : wpAny M A (spliced (backTo pos (starEach (x :: rest) env))) (fun vs s₁ => wpAny M A (mergedKeywords f kws) (fun d s₂ => wpAny M A (keywordsIn f d) (fun kw s₃ => Q ⟨vs, kw⟩ s₃) E s₂) E s₁) E s)
    (he : starEach (x :: rest) env = (false, eval x env) :: starEach rest env := by rfl) : wpAny M A (evalArgs f true (backTo pos (starEach (x :: rest) env)) kws) Q E s := by
  rw [he] at h ⊢
  exact evalArgs_star hall h

theorem callWith_starM {M : Model} {A : Around} {E : Value → Shared → Prop} {s : Shared} {pos : Pos} {K : Frag} {q g : Addr} {self : Value} {first : List Value} {args : List (Bool × Sem Value)} {kws : List (Option Str × Sem Value)} {Q : Value → Shared → Prop} (hf : fnIn K g = true)
    (hs : (args.any (·.1) || kws.any (·.1.isNone)) = true) (h : wpAny M A (evalArgs (.ref q) true args kws) (fun a s₁ => MethP K q g self s₁.heap ∧ wpAny M A (call (.ref q) (first ++ a.pos) a.kw) Q E s₁) E s) : wpAny M A (callWith pos (.ref q) first args kws) Q E s := by
  unfold callWith
  refine wpAny_bind (wpAny_holding (wpAny_mono h (fun a s₁ h₁ => wpAny_bind (wpAny_standAt ?_)) fun _ _ x => x))
  obtain ⟨k, hk', L⟩ := keeps_M (M := M) hf _ h₁.1
  simp only [hs]
  refine wpAny_bind (L.here ?_)
  have tail : ∀ {t : Sem Value}, wpAny M A t Q E s₁ → wpAny M A (t >>= fun r => holding [r] point >>= fun _ => pure r) Q E s₁ :=
    fun ht => wpAny_bind (wpAny_mono ht (fun r s₂ hr => wpAny_bind (wpAny_holding (wpAny_point (wpAny_pure hr)))) fun _ _ x => x)
  have marked (mk : Value) : wpAny M A (callMarked mk (.ref q) (first ++ a.pos) a.kw) Q E s₁ := by unfold callMarked; exact Calls.wpAny_keep h₁.2
  rcases hk' with rfl | rfl | rfl <;> dsimp only <;> first | exact tail (marked _) | exact tail (wpAny_operate' h₁.2)

variable {Hd Dd : Addr} {dd : Obj} {Ll : Addr} {items : Array Value} {e : Nat} {g : List (Str × Str)} {Ts : Nat → Addr} {vals : Nat → Array Value} {n : Nat} {Q : Value → Shared → Prop}

theorem Holds.mono {items : Array Value} {g : List (Str × Str)} {Ts : Nat → Addr} {vals : Nat → Array Value} (H : Holds ld items g Ts vals) (h : ∀ p ∈ ld, p ∈ ld') : Holds ld' items g Ts vals := ⟨H.size, H.item, fun j hj => h _ (H.obj j hj), H.val⟩
theorem Deals.mono (D : Deals ld Hd Dd dd Ll items e g Ts vals) (h : ∀ p ∈ ld, p ∈ ld') : Deals ld' Hd Dd dd Ll items e g Ts vals := ⟨h _ D.ob, h _ D.dc, D.dd, h _ D.ls, D.hs.mono h, D.ok, D.len⟩
theorem info_ct (ok : c.Ok) (I : St c fs ld s) (hA : AOk (n + 3) A) (D : Deals ld Hd Dd dd Ll items e g Ts vals) {q : Str} (hq : OkS q) {t : Tok} {dv : Value} {Bm : Addr} (hB : (Bm, methodObj (.ref 232) (.ref Hd)) ∈ ld)
    (h1 : ∀ p t T s', g.find? (fun p => Txt.lower p.1 == Txt.lower q) = some p → St c fs ((T, tup #[.str p.2 t, .str p.2 t]) :: ld) s' → Q (.ref T) s') (h2 : g.find? (fun p => Txt.lower p.1 == Txt.lower q) = none → ∀ T s', St c fs ((T, tup #[dv, dv]) :: ld) s' → Q (.ref T) s') :
    wpAny c.MD A (call (.ref 68) [.str q t, .ref Bm] [(Str.ofString "default", dv)]) Q NoE s := by
  refine callFG (args := ⟨[.str q t, .ref Bm], [(_, dv)]⟩) I hA (kg ok rfl rfl) ⟨_, _, _, _, rfl, kg ok rfl rfl, rfl, rfl⟩ rfl (by decide) rfl rfl rfl rfl rfl ?_
  have I1 := I.new (tk := s.toks) (o := emptyDict) rfl (Heap.get?_push_size _ rfl) fun b o e => Heap.get?_push_of_some _ e
  refine wpAny_eqTree (t' := alloc emptyDict >>= fun d => (forIn [(Str.ofString "default", dv)] PUnit.unit (fun x _ => nsSet d x.1 x.2 >>= fun _ => pure (ForInStep.yield PUnit.unit))) >>= fun _ => pure [(Str.ofString "name_index", Value.str q t), (Str.ofString "get_name", Value.ref Bm), (Str.ofString "extrainfo", Value.ref d)]) ?_ (by kernel_rfl)
  refine wpAny_bind (wpAny_alloc ?_)
  rw [List.forIn_cons]
  refine wpAny_bind (wpAny_bind (wpAny_bind (rNsSet0 I1 fun s1 hh tk I2 => ?_)))
  refine wpAny_pure (wpAny_pure (wpAny_pure ⟨_, I2, locs rfl, ?_⟩))
  intro L s' env N hcells I' hA'
  clear hcells
  repeat (walk_at "st")
  refine wpAny_isNot_other rfl (by intro h; cases h) ?_
  refine wpAny_truthy_bool ?_
  rw [if_pos rfl]
  repeat (walk_at "st")
  refine callWith_starM (K := c.K) (g := 232) (self := .ref Hd) (by kernel_rfl) rfl ?_
  refine evalArgs_star2 rfl ?_
  repeat (walk_at "st")
  have I3 := I'
  obtain ⟨hp, g0, d, tk0, os⟩ := s'
  refine merged (I3.ob _ (.head _)) ?_ (fun {s2 Q2} k hq2 => ?_) fun h' k hd' => ?_
  · refine beq_eq_false_iff_ne.mpr fun h => ?_
    have h0 : c.hb.get? s.heap.objs.size = none := (I3.nb _ (List.mem_append.mpr (.inr (.head _)))).1
    replace h : s.heap.objs.size = sysModules := h
    obtain ⟨o, ho⟩ := Option.isSome_iff_exists.mp (show (c.K.lookup sysModules).isSome = true from by kernel_rfl)
    rw [h, ok.kin _ _ ho] at h0
    cases h0
  · show wpAny c.MD (A.deeper env) (eval (.Name (Str.ofString "extrainfo") _) env >>= fun v => standAt _ >>= fun _ => pure v) Q2 _ s2
    refine wpAny_bind (wpAny_Name (wpAny_loadName_local (by rw [N.sc]) (by unfold Env.kindOf; rw [N.sc]; rfl) (by rw [N.loc]; exact (I3.fr _ (.head _)).keeps k) rfl ?_) (by decide))
    exact wpAny_bind (wpAny_standAt (wpAny_pure hq2))
  · obtain ⟨e', hd'⟩ := hd'
    refine kwIn hd' ?_
    have I4 := I3.same (tk := tk0) k
    refine ⟨⟨I4.ob _ (.tail _ hB), I4.kx⟩, ?_⟩
    refine wpAny_call (ks_codeAny_call_bound (I4.ob _ (.tail _ hB)) ?_)
    have sub : ∀ {x : Addr × Obj}, ∀ p ∈ ld, p ∈ x :: ld := fun p hp => .tail _ hp
    refine get_code ok I4 hA' (D.mono sub) hq ?_ ?_
    · intro p t1 s5 hp I5
      repeat (walk_at "st")
      refine ⟨_, _, by assumption, Nat.le_of_ble_eq_true rfl, ?_⟩
      intro T s6 I6
      repeat (walk_at "st")
      exact h1 p _ T _ hp ((St.dropFr (by assumption)).subl (List.Sublist.cons_cons _ (List.Sublist.cons _ (List.Sublist.refl _))))
    · intro hp s5 I5
      repeat (walk_at "st")
      refine ⟨_, _, by assumption, Nat.le_of_ble_eq_true rfl, ?_⟩
      intro T s6 I6
      repeat (walk_at "st")
      exact h2 hp T _ ((St.dropFr (by assumption)).subl (List.Sublist.cons_cons _ (List.Sublist.cons _ (List.Sublist.refl _))))
end

/-! part F16 -/
section
variable {c : Cx} {fs fs' : Fs} {ld ld' : Ld} {s : Shared} {A : Around} {env : Env} {L : Addr} {m : Str → Option Value} {sc : Scope} {cd : Value}

theorem strIter_no {h : Heap} {I : Addr} {T : String} {x : Str} {t : Tok} {i : Nat} (y : h.IsStrIter I T x t i) (q : Str) : ¬ h.CodeRec (.ref I) q := by
  rintro ⟨c₂, o₂, vs₂, t₂, e₂, g₂, r₂, r₃⟩
  obtain ⟨o, ho, _, hd⟩ := y
  cases e₂
  rw [ho] at g₂
  cases g₂
  rw [hd] at r₂
  cases r₂
  cases r₃

/-- a loop over the letters of a str -/
theorem rForStr {v : Str} {vp pos : Pos} {iter : PySem.Expr} {body : List Stmt} {x : Str} {Q : Flow → Shared → Prop} (hasc : x.cps.all (· < 128) = true) (hA : A.handled = none) (inv : Nat → (Str → Option Value) → Ld → Prop)
    (hs : ∀ x, foldedSetIterable iter env x = pure x)
    (hiter : wpAny c.MD A (eval iter env) (fun y s₁ => ∃ t m ld, y = .str x t ∧ St c ((L, m) :: fs) ld s₁ ∧ inv 0 m ld) NoE s)
    (step : ∀ i n t m ld Ia oI s, x.cps[i]? = some n → inv i m ld → St c ((L, m) :: fs) ((Ia, oI) :: ld) s → wpAny c.MD A (assign (.Name v vp) env (.str ⟨#[n]⟩ t)) (fun _ s₂ => wpAny c.MD A (execs body env) (fun f s₃ => match f with
        | .next | .cont => ∃ m' ld', inv (i + 1) m' ld' ∧ St c ((L, m') :: fs) ((Ia, oI) :: ld') s₃
        | .brk => Q .next s₃
        | .ret v => Q (.ret v) s₃) NoE s₂) NoE s)
    (exit : ∀ m ld s, inv x.cps.size m ld → St c ((L, m) :: fs) ld s → Q .next s) : wpAny c.MD A (exec (.For (.Name v vp) iter body [] pos) env) Q NoE s := by
  refine wpAny_For (wpAny_mono hiter (fun y s₁ h₁ => ?_) fun _ _ z => z) hs
  obtain ⟨t, m, ld, rfl, I, hi⟩ := h₁
  refine wpAny_pyIter_ascii hasc ?_
  have hk : ∀ (r : Result) s', (match r with | .ok f => Q f s' | .error _ => False) → (match r with | .ok f => Q f s' | .error e => cameBackBy c.MD A env NoE e s') := fun r s' z => by
    cases r with
    | ok f => exact z
    | error e => exact z.elim
  refine codeAny_mono ?_ hk
  have I1 := I.new (tk := s₁.toks) (o := { cls := .type "str_ascii_iterator", data := .fields #[.str x t, .int 0 0] }) rfl (Heap.get?_push_size _ rfl) fun b o e => Heap.get?_push_of_some _ e
  refine loopW (cs := []) hA (fun A' hA' => Walks.strAscii hA' s₁.heap.objs.size x t) (fun i h y => let ⟨o, ho, _⟩ := y; ⟨o, ho⟩) (fun i h q y => strIter_no y q) (fun b hb => .inl (by simpa using hb)) inv (fun i m ld' _ p hp => nomatch hp) ?_ ?_ I1 ?_ hi
  · rintro i v' m ld' oI s hlt ⟨n, u, hn, rfl⟩ hinv S hs
    exact wpAny_pure (step i n u m ld' _ oI s hn hinv S)
  · rintro m ld' s hinv S
    exact wpAny_execs_nil (exit m ld' s hinv S)
  · exact ⟨_, Heap.get?_push_size _ rfl, rfl, rfl⟩

abbrev L1 (n : Nat) : Str := ⟨#[n]⟩
abbrev L2 (n m : Nat) : Str := ⟨#[n, m]⟩
def ltrs : List Nat := [97, 98, 99, 100, 107, 108, 109]
def isA (n : Nat) : Bool := decide (97 ≤ n ∧ n ≤ 100)
def isK (n : Nat) : Bool := decide (107 ≤ n ∧ n ≤ 109)
/-- the price table -/
structure Price (c : Cx) (ld : Ld) (P : Addr) (es : Array DictEntry) (ep : Nat) (pr : Nat → Nat → Int) : Prop where
  ob : (P, { cls := .type "dict", data := .dict es ep }) ∈ ld
  keys : KeysOf (strKind PySem.Challenge.rw_wk0037_01.row.prog c.w) es
  get : ∀ x q, (isA x = true ∧ isK q = true) ∨ (isK x = true ∧ isA q = true) → ∃ t, findBy (strKind PySem.Challenge.rw_wk0037_01.row.prog c.w).is es (L2 x q) = some (.int (pr x q) t)
variable {P : Addr} {es : Array DictEntry} {ep : Nat} {pr : Nat → Nat → Int}
theorem Price.mono (H : Price c ld P es ep pr) (h : ∀ p ∈ ld, p ∈ ld') : Price c ld' P es ep pr := ⟨h _ H.ob, H.keys, H.get⟩
theorem l_gi : typeLookup (.type "dict") "__getitem__" = pure (some (.builtin "dict.__getitem__")) := by rw [typeLookup_type, builtinLookup_eq_fast]; kernel_rfl
theorem rPrice {value slice : PySem.Expr} {x q : Nat} {t : Tok} {Q : Value → Shared → Prop} (I : St c fs ld s) (H : Price c ld P es ep pr) (hxq : (isA x = true ∧ isK q = true) ∨ (isK x = true ∧ isA q = true))
    (h : ∀ t' s', St c fs ld s' → Q (.int (pr x q) t') s')
    (hs : subscripted slice false (.ref P) (.str (L2 x q) t) = operate [.ref P, .str (L2 x q) t] (getItem (.ref P) (.str (L2 x q) t)) := by with_unfolding_all rfl) (ht : ∀ r, letTemporaryGo value (.ref P) r = pure () := by intro _; with_unfolding_all rfl) :
    wpAny c.MD A (subscriptTail value slice (.ref P) (.str (L2 x q) t)) Q NoE s := by
  obtain ⟨t', hv⟩ := H.get x q hxq
  refine subscriptTail_builtin (T := "dict") ⟨_, I.ob _ H.ob, rfl⟩ l_gi ?_ hs ht
  refine wpAny_getItem_of (knd := strKind _ _) (k := L2 x q) (strKind_is _ _ _ _) ⟨_, es, ep, I.ob _ H.ob, ?_, rfl, H.keys, fun k => rfl⟩ hv (h _ _ I.tok)
  exact ⟨rfl, rfl, rfl⟩

/-- the law's chains: pairs of letters, and how they show -/
def chStr (ch : List (Nat × Nat)) : List (Str × Str) := ch.map fun p => (L1 p.1, L1 p.2)
abbrev chW (ch : List (Nat × Nat)) : Str := chS (chStr ch)
def chL (ch : List (Nat × Nat)) : List Nat := ch.flatMap fun p => [p.1, p.2]
def chainsS (mu : Nat → Nat) (pr : Nat → Nat → Int) (th : List Nat) : Nat → List (Nat × Nat) → Nat → Int → List (Int × List (Nat × Nat))
  | 0, ch, _, g => [(g, ch)]
  | n + 1, ch, x, g => (g, ch) :: th.flatMap fun q => if isK q = isA x ∧ q ∉ chL ch then
      (if mu q = 45 then [(g + pr x q, ch ++ [(x, q)])] else chainsS mu pr th n (ch ++ [(x, q)]) (mu q) (g + pr x q - pr q (mu q))) else []

/-- a list of (gain, chain) tuples -/
structure Found (ld : Ld) (items : Array Value) (l : List (Int × List (Nat × Nat))) : Prop where
  size : items.size = l.length
  item : ∀ (j : Nat) (p : Int × List (Nat × Nat)), l[j]? = some p → ∃ (T : Addr) (t u : Tok), items[j]? = some (.ref T) ∧ (T, tup #[.int p.1 t, .str (chW p.2) u]) ∈ ld

theorem glue0 : ∀ l : List Str, (Txt.join "" l).cps.toList = l.flatMap (·.cps.toList) := by
  intro l
  show (Builtin.Str.glued (Str.ofString "") l).cps.toList = _
  rw [StrLaws.glued_eq_join, show Str.ofString "" = Str.empty from by kernel_rfl]
  induction l with
  | nil => rfl
  | cons x r ih =>
    cases r with
    | nil => simp [Str.join]
    | cons y r =>
      rw [List.flatMap_cons, ← ih]
      show ((x.cps ++ #[]) ++ (Str.join Str.empty (y :: r)).cps).toList = _
      simp
theorem chW_cps (ch : List (Nat × Nat)) : (chW ch).cps.toList = chL ch := by
  show (Txt.join "" _).cps.toList = _
  rw [glue0]
  unfold chL chStr
  rw [List.map_map, List.flatMap_map]
  refine congrArg (fun f => List.flatMap f ch) (funext fun p => ?_)
  show (Txt.join "" [L1 p.1, L1 p.2]).cps.toList = _
  first | (rw [glue0]; done) | (rw [glue0]; rfl)
theorem inK (q : Nat) : decide (q ∈ (Str.ofString "klm").cps.toList) = isK q := by
  rw [show Str.ofString "klm" = ⟨#[107, 108, 109]⟩ from by kernel_rfl]
  simp only [isK, List.mem_cons, List.not_mem_nil, or_false]
  rw [decide_eq_decide]; omega
theorem inA (q : Nat) : decide (q ∈ (Str.ofString "abcd").cps.toList) = isA q := by
  rw [show Str.ofString "abcd" = ⟨#[97, 98, 99, 100]⟩ from by kernel_rfl]
  simp only [isA, List.mem_cons, List.not_mem_nil, or_false]
  rw [decide_eq_decide]; omega
section
variable {prog : Program} {w : World} {E : Value → Shared → Prop} {q : Nat} {t u : Tok} {Q : Value → Shared → Prop}
theorem rInK (h : Q (.bool (isK q)) s) : wpAny (model prog w) A (compareOp .In (.str (L1 q) t) (.str (Str.ofString "klm") u)) Q E s := P.in_str (by rw [StrLaws.found_one, inK]; exact h)
theorem rInA (h : Q (.bool (isA q)) s) : wpAny (model prog w) A (compareOp .In (.str (L1 q) t) (.str (Str.ofString "abcd") u)) Q E s := P.in_str (by rw [StrLaws.found_one, inA]; exact h)
theorem rNotCh {ch : List (Nat × Nat)} (h : Q (.bool (!decide (q ∈ chL ch))) s) : wpAny (model prog w) A (compareOp .NotIn (.str (L1 q) t) (.str (chW ch) u)) Q E s := P.notIn_str (by rw [StrLaws.found_one, chW_cps]; exact h)
end
theorem Found.skip {new : Ld} {fit : Array Value} {f : Nat → List (Int × List (Nat × Nat))} {th : List Nat} {i q : Nat} {p : Int × List (Nat × Nat)} (F : Found new fit (p :: (th.take i).flatMap f)) (hq : th[i]? = some q) (hf : f q = []) : Found new fit (p :: (th.take (i + 1)).flatMap f) := by
  rw [List.take_add_one, hq]
  simpa [hf] using F

variable {Lp Dp : Addr} {od : Obj} {pit : Array Value} {e : Nat} {Ts : Nat → Addr} {vals : Nat → Array Value} {Hd Dd : Addr} {dd : Obj} {Ll : Addr} {dit : Array Value} {de : Nat} {g : List (Str × Str)} {Td : Nat → Addr} {vd : Nat → Array Value}
variable {mu : Nat → Nat} {th : List Nat} {n : Nat} {Q : Value → Shared → Prop}

theorem AOk.mono {n m : Nat} {A : Around} (h : AOk m A) (hn : n ≤ m) : AOk n A := ⟨h.hh, by have := h.dp; omega, by have := h.un; omega, h.fs, h.gd⟩
theorem dash : Str.ofString "-" = L1 45 := by kernel_rfl
theorem ltr_ok {q : Nat} (h : q ∈ ltrs) : OkS (L1 q) := ⟨q, by revert h; revert q; decide, rfl⟩

theorem rAssignT {elts : List PySem.Expr} {k : Nat} {p pos : Pos} {value : PySem.Expr} {Q : Flow → Shared → Prop} (h : wpAny c.MD A (eval value env) (fun v s₁ => wpAny c.MD A (assign (.Tuple elts k p) env v) (fun _ => Q .next) NoE s₁) NoE s)
    (hs : swapsWithSole [.Tuple elts k p] value pos.line env = pure false := by rfl) (hw : swappedStores [.Tuple elts k p] value env = pure none := by rfl) : wpAny c.MD A (exec (.Assign [.Tuple elts k p] value pos) env) Q NoE s :=
  wpAny_Assign_stores (wpAny_mono h (fun _ _ z => z) fun _ _ z => z) hs hw

theorem findObj_meth {K : Frag} {C p : Addr} {od : Obj} {name : Str} {g : Value} (hh : hasDictIn K C = true) (ha : findIn K (.ref C) name = some (some (.ref p))) (hg : specialIn K (.ref p) "__get__" = some (some g)) (ht : takesIn K (.ref p) = some false) (hc : copiedNames.contains name = false) (hl : lookIn name od = some none) :
    findObj K C (some od) name = some (.bind g (.ref p)) := by
  obtain ⟨cd, hcd, hd⟩ := any_some hh
  have ho : W.ownOf cd (some od) name = some none := by unfold W.ownOf; rw [if_pos hd]; exact hl
  unfold findObj
  rw [hcd, Option.bind_some, ha, Option.bind_some]
  simp only [hg, ht, Option.bind_some, ho, hc, Bool.false_and, Bool.false_eq_true, if_false]

theorem rBoundGet {expr : Bool} (I : St c fs ld s) (D : Deals ld Hd Dd dd Ll dit de g Td vd) (h : ∀ B s', St c fs ((B, methodObj (.ref 232) (.ref Hd)) :: ld) s' → Q (.ref B) s') : wpAny c.MD A (getAttr (.ref Hd) "get" expr) Q NoE s := by
  have X := I.kx
  refine get_bind I.kx (D.inst I) fh_ga (findObj_meth (g := .builtin "function.__get__") (p := 232) (by kernel_rfl) (by kernel_rfl) (by kernel_rfl) (by kernel_rfl) (by decide) (D.dd.2 _ rfl)) fh_gt ?_
  have I1 := I.tok (tk := s.toks + 1)
  refine wpAny_call (fn_get (K := c.K) (s := { s with toks := s.toks + 1 }) I1.kx (by kernel_rfl) ?_)
  exact handed_on rfl (h _ _ (I1.new (tk := s.toks + 1) (o := methodObj (.ref 232) (.ref Hd)) rfl (Heap.get?_push_size _ rfl) fun b o e => Heap.get?_push_of_some _ e))

/-- what a chain's callers know of the deals: the partner of each letter -/
def Mu (g : List (Str × Str)) (mu : Nat → Nat) : Prop := ∀ q ∈ ltrs, (mu q = 45 ∧ g.find? (fun p => Txt.lower p.1 == Txt.lower (L1 q)) = none) ∨ (mu q ∈ ltrs ∧ isA (mu q) = isK q ∧ ∃ p, g.find? (fun p => Txt.lower p.1 == Txt.lower (L1 q)) = some p ∧ p.2 = L1 (mu q))

theorem Holds.push {g : List (Str × Str)} {tp : Addr} {a b : Str} {t u : Tok} (H : Holds ld pit g Ts vals) :
    Holds ((tp, tup #[.str a t, .str b u]) :: ld) (pit.push (.ref tp)) (g ++ [(a, b)]) (fun j => if j = pit.size then tp else Ts j) (fun j => if j = pit.size then #[.str a t, .str b u] else vals j) where
  size := by rw [Array.size_push, List.length_append, H.size]; rfl
  item := fun j hj => by
    rw [Array.size_push] at hj
    rcases Nat.lt_succ_iff_lt_or_eq.mp hj with h | rfl
    · simp only [if_neg (Nat.ne_of_lt h)]
      rw [Array.getElem?_push_lt h, ← Array.getElem?_eq_getElem h]; exact H.item j h
    · simp
  obj := fun j hj => by
    rw [Array.size_push] at hj
    rcases Nat.lt_succ_iff_lt_or_eq.mp hj with h | rfl
    · simp only [if_neg (Nat.ne_of_lt h)]; exact .tail _ (H.obj j h)
    · simp
  val := fun j p hp => by
    rw [List.getElem?_append] at hp
    split at hp
    · rename_i h
      rw [← H.size] at h
      simp only [if_neg (Nat.ne_of_lt h)]; exact H.val j p hp
    · rename_i h
      rw [← H.size] at h hp
      have : j - pit.size = 0 := by
        rcases Nat.eq_zero_or_pos (j - pit.size) with h0 | h0
        · exact h0
        · rw [List.getElem?_eq_none (by simp only [List.length_cons, List.length_nil]; omega)] at hp; cases hp
      have e : j = pit.size := by omega
      subst e
      simp at hp
      subst hp
      simp

theorem rAppendL {Fa : Addr} {fit : Array Value} {ef : Nat} {v : Value} (I : St c fs ((Fa, listO fit ef) :: ld) s) (hz : fit.size < 100000) (h : ∀ s' e', St c fs ((Fa, listO (fit.push v) e') :: ld) s' → Q .none s') :
    wpAny c.MD A (call (.builtin "list.append") [.ref Fa, v]) Q NoE s := by
  refine wpAny_call_entry slot_list_append ⟨_, I.ob _ (.head _), rfl⟩ entry_list_append ?_ (args_list_append _ _)
  show wpAny _ _ (updateSeq Fa (·.push v) >>= fun _ => ret .none) _ _ s
  exact wpAny_bind (rUpdSeq I (by rw [Array.size_push]; exact Nat.le_trans hz (by decide)) (Nat.le_trans (Nat.le_of_lt hz) (by decide)) fun s' k' I' => wpAny_pure ⟨.none, rfl, h _ _ I'⟩)

theorem rExtendL {Fa Fb : Addr} {fit gi : Array Value} {ef eg : Nat} (I : St c fs ((Fa, listO fit ef) :: ld) s) (hb : (Fb, listO gi eg) ∈ ld) (hz : fit.size + gi.size < 100000) (h : ∀ s' e', St c fs ((Fa, listO (fit ++ gi) e') :: ld) s' → Q .none s') :
    wpAny c.MD A (call (.builtin "list.extend") [.ref Fa, .ref Fb]) Q NoE s := by
  have hs : sizeLine = 16777216 := by decide
  have ho := I.ob _ (.head _)
  refine call_meets PySem.F.slot_list_extend ⟨_, ho, rfl⟩ PySem.F.entry_list_extend (PySem.F.args_list_extend_2 _ _) (AutoSeq1.list_extend_list_list_0 Fa fit ef Fb gi eg ?_ (by omega) (by omega)) ⟨ho, I.ob _ (.tail _ hb), ?_⟩
  · simp only [Builtin.List.listTooLong, Bool.and_eq_true, decide_eq_true_eq]; omega
  · exact h _ _ (I.setOb (tk := s.toks) (Heap.get?_update_self (Obj.mapSeq fun x => x ++ gi) ho rfl) fun b x hb hx => (Heap.SameBut.update ..).extBut b x hb hx)

theorem Found.push {new : Ld} {fit : Array Value} {l : List (Int × List (Nat × Nat))} {T : Addr} {v : Int} {ch : List (Nat × Nat)} {t u : Tok} (F : Found new fit l) : Found ((T, tup #[.int v t, .str (chW ch) u]) :: new) (fit.push (.ref T)) (l ++ [(v, ch)]) where
  size := by rw [Array.size_push, List.length_append, F.size]; rfl
  item := fun j p hp => by
    rw [List.getElem?_append] at hp
    split at hp
    · rename_i h
      obtain ⟨T', t', u', a, b⟩ := F.item j p hp
      rw [← F.size] at h
      exact ⟨T', t', u', by rw [Array.getElem?_push_lt h, ← Array.getElem?_eq_getElem h]; exact a, .tail _ b⟩
    · rename_i h
      rw [← F.size] at h hp
      have : j - fit.size = 0 := by
        rcases Nat.eq_zero_or_pos (j - fit.size) with h0 | h0
        · exact h0
        · rw [List.getElem?_eq_none (by simp only [List.length_cons, List.length_nil]; omega)] at hp; cases hp
      have e : j = fit.size := by omega
      subst e
      simp at hp
      subst hp
      exact ⟨T, t, u, by simp, .head _⟩

theorem info_mu (ok : c.Ok) (I : St c fs ld s) (hA : AOk (n + 3) A) (D : Deals ld Hd Dd dd Ll dit de g Td vd) (hM : Mu g mu) {q : Nat} (hq : q ∈ ltrs) {t u : Tok} {Bm : Addr} (hB : (Bm, methodObj (.ref 232) (.ref Hd)) ∈ ld)
    (h : ∀ T tw s', St c fs ((T, tup #[.str (L1 (mu q)) tw, .str (L1 (mu q)) tw]) :: ld) s' → Q (.ref T) s') :
    wpAny c.MD A (call (.ref 68) [.str (L1 q) t, .ref Bm] [(Str.ofString "default", .str (Str.ofString "-") u)]) Q NoE s := by
  refine info_ct ok I hA D (ltr_ok hq) hB ?_ ?_
  · intro p t T s' hp I'
    rcases hM q hq with ⟨_, hn⟩ | ⟨_, _, p', hp', e⟩
    · rw [hn] at hp; cases hp
    · rw [hp'] at hp; cases hp; rw [e] at I'; exact h T t s' I'
  · intro hn T s' I'
    rcases hM q hq with ⟨h45, _⟩ | ⟨_, _, p', hp', e⟩
    · rw [dash, ← h45] at I'; exact h T u s' I'
    · rw [hp'] at hn; cases hn

end

/-! part F17 -/
section
variable {c : Cx} {fs fs' : Fs} {ld ld' : Ld} {s : Shared} {A : Around} {env : Env} {L : Addr} {m : Str → Option Value} {sc : Scope} {cd : Value}
variable {P : Addr} {es : Array DictEntry} {ep : Nat} {pr : Nat → Nat → Int}
variable {Lp Dp : Addr} {od : Obj} {pit : Array Value} {e : Nat} {Ts : Nat → Addr} {vals : Nat → Array Value} {Hd Dd : Addr} {dd : Obj} {Ll : Addr} {dit : Array Value} {de : Nat} {g : List (Str × Str)} {Td : Nat → Addr} {vd : Nat → Array Value}
variable {mu : Nat → Nat} {th : List Nat} {n : Nat} {Q : Value → Shared → Prop}

theorem isA_K {x : Nat} (h : x ∈ ltrs) : isA x = !isK x := by revert h; revert x; decide
theorem sides {x q : Nat} (hx : x ∈ ltrs) (hq : q ∈ ltrs) (h : isK q = isA x) : (isA x = true ∧ isK q = true) ∨ (isK x = true ∧ isA q = true) := by
  have a := isA_K hx
  have b := isA_K hq
  cases h1 : isA x
  · rw [h1] at a h; rw [h] at b; exact .inr ⟨by simpa using a.symm, by simpa using b⟩
  · exact .inl ⟨rfl, by rw [h, h1]⟩
theorem getMethod_list_extend {l : Addr} {o : Obj} {pl : Sem Bool} {Q : Value × List Value → Shared → Prop} {M : Model} {E : Value → Shared → Prop} (ho : s.heap.get? l = some o) (hc : o.cls = .type "list") (hd : o.dict = none)
    (h : Q (.builtin "list.extend", [.ref l]) s) : wpAny M A (getMethod (.ref l) "extend" pl) Q E s := by
  have hT : s.TypeIs (.ref l) "list" := ⟨o, ho, hc⟩
  unfold getMethod
  refine wpAny_bind (wpAny_specialOf hT list_getattribute ?_)
  show wpAny M A (if (Manifest.canonical "list.__getattribute__" != "object.__getattribute__") = true then _ else _) Q E s
  rw [canon_list_getattribute, if_neg Bool.false_ne_true]
  refine wpAny_bind (wpAny_specialOf hT list_getattr_none ?_)
  refine wpAny_bind (wpAny_specialOf hT PySem.F.slot_list_extend.lookup ?_)
  refine wpAny_bind (wpAny_of_eq PySem.F.type_list_extend ?_)
  refine wpAny_bind (wpAny_load ho ?_)
  rw [hd]
  exact wpAny_bind (wpAny_rule (wpAny_pure h))


def bodyS (mu : Nat → Nat) (pr : Nat → Nat → Int) (th : List Nat) : Nat → List (Nat × Nat) → Nat → Int → Nat → List (Int × List (Nat × Nat))
  | 0, _, _, _, _ => []
  | n + 1, ch, x, g, q => if isK q = isA x ∧ q ∉ chL ch then
      (if mu q = 45 then [(g + pr x q, ch ++ [(x, q)])] else chainsS mu pr th n (ch ++ [(x, q)]) (mu q) (g + pr x q - pr q (mu q))) else []
theorem bodyS_succ (mu : Nat → Nat) (pr : Nat → Nat → Int) (th : List Nat) (n : Nat) (ch : List (Nat × Nat)) (x : Nat) (g : Int) (q : Nat) : bodyS mu pr th (n + 1) ch x g q = if isK q = isA x ∧ q ∉ chL ch then
      (if mu q = 45 then [(g + pr x q, ch ++ [(x, q)])] else chainsS mu pr th n (ch ++ [(x, q)]) (mu q) (g + pr x q - pr q (mu q))) else [] := rfl
theorem chainsS_eq (mu : Nat → Nat) (pr : Nat → Nat → Int) (th : List Nat) (n : Nat) (ch : List (Nat × Nat)) (x : Nat) (g : Int) : chainsS mu pr th n ch x g = (g, ch) :: th.flatMap (bodyS mu pr th n ch x g) := by
  cases n with
  | zero =>
    unfold chainsS
    have : th.flatMap (bodyS mu pr th 0 ch x g) = [] := List.flatMap_eq_nil_iff.mpr fun _ _ => rfl
    rw [this]
  | succ n => unfold chainsS; rfl
theorem chL_snoc (ch : List (Nat × Nat)) (x q : Nat) : chL (ch ++ [(x, q)]) = chL ch ++ [x, q] := by simp [chL]
theorem filter_lt {α : Type} {p p' : α → Bool} {l : List α} (hp : ∀ a, p' a = true → p a = true) {q : α} (hq : q ∈ l) (h1 : p q = true) (h2 : p' q = false) : (l.filter p').length < (l.filter p).length := by
  have le : ∀ l : List α, (l.filter p').length ≤ (l.filter p).length := by
    intro l
    induction l with
    | nil => exact Nat.le_refl _
    | cons a l ih =>
      simp only [List.filter_cons]
      split
      · rename_i h; rw [if_pos (hp a h)]; simp only [List.length_cons]; omega
      · split
        · simp only [List.length_cons]; omega
        · exact ih
  induction l with
  | nil => cases hq
  | cons a l ih =>
    simp only [List.filter_cons]
    rcases List.mem_cons.mp hq with rfl | hq
    · rw [h1, h2]; simp only [Bool.false_eq_true, if_false, if_true, List.length_cons]; have := le l; omega
    · have := ih hq
      split
      · rename_i h; rw [if_pos (hp a h)]; simp only [List.length_cons]; omega
      · split
        · simp only [List.length_cons]; omega
        · exact this
def bnd : Nat → Nat
  | 0 => 1
  | n + 1 => 1 + 6 * bnd n
theorem flat_le {α β : Type} (f : α → List β) (b : Nat) : ∀ l : List α, (∀ a, (f a).length ≤ b) → (l.flatMap f).length ≤ l.length * b
  | [], _ => by simp
  | a :: l, h => by
    have := flat_le f b l h
    have := h a
    rw [List.flatMap_cons, List.length_append, List.length_cons, Nat.succ_mul]; omega
theorem chains_len (mu : Nat → Nat) (pr : Nat → Nat → Int) {th : List Nat} (hth : th.length ≤ 6) : ∀ (n : Nat) (ch : List (Nat × Nat)) (x : Nat) (g : Int), (chainsS mu pr th n ch x g).length ≤ bnd n
  | 0, _, _, _ => Nat.le_refl _
  | n + 1, ch, x, g => by
    rw [chainsS_eq, List.length_cons]
    have hb : 1 ≤ bnd n := by cases n <;> simp [bnd]
    have h := flat_le (bodyS mu pr th (n + 1) ch x g) (bnd n) th (fun q => by
      rw [bodyS_succ]
      split
      · split
        · exact hb
        · exact chains_len mu pr hth n _ _ _
      · exact Nat.zero_le _)
    have : th.length * bnd n ≤ 6 * bnd n := Nat.mul_le_mul_right _ hth
    show _ ≤ 1 + 6 * bnd n
    omega
theorem bnd_le {n : Nat} (h : n ≤ 6) : bnd n ≤ 55987 := by
  revert h; revert n; decide
theorem part_len (mu : Nat → Nat) (pr : Nat → Nat → Int) {th : List Nat} (hth : th.length ≤ 6) {n : Nat} (hn : n ≤ 6) (ch : List (Nat × Nat)) (x : Nat) (g : Int) (i : Nat) : ((g, ch) :: (th.take i).flatMap (bodyS mu pr th n ch x g)).length ≤ 55987 := by
  have h1 := chains_len mu pr hth n ch x g
  have h2 := bnd_le hn
  rw [chainsS_eq, List.length_cons] at h1
  have h3 : ((th.take i).flatMap (bodyS mu pr th n ch x g)).length ≤ (th.flatMap (bodyS mu pr th n ch x g)).length := by
    have : th.flatMap (bodyS mu pr th n ch x g) = (th.take i).flatMap (bodyS mu pr th n ch x g) ++ (th.drop i).flatMap (bodyS mu pr th n ch x g) := by
      rw [← List.flatMap_append, List.take_append_drop]
    rw [this, List.length_append]; omega
  rw [List.length_cons]; omega
theorem chStr_one {ch : List (Nat × Nat)} : ∀ p ∈ chStr ch, p.1.length = 1 ∧ p.2.length = 1 := by
  intro p hp
  obtain ⟨a, _, rfl⟩ := List.mem_map.mp hp
  exact ⟨rfl, rfl⟩
theorem chStr_len (ch : List (Nat × Nat)) : (chStr ch).length = ch.length := List.length_map ..
theorem Found.append {new new' : Ld} {fit fit' : Array Value} {l l' : List (Int × List (Nat × Nat))} (F : Found new fit l) (F' : Found new' fit' l') : Found (new' ++ new) (fit ++ fit') (l ++ l') where
  size := by rw [Array.size_append, List.length_append, F.size, F'.size]
  item := fun j p hp => by
    rw [List.getElem?_append] at hp
    split at hp
    · rename_i h
      obtain ⟨T', t', u', a, b⟩ := F.item j p hp
      rw [← F.size] at h
      exact ⟨T', t', u', by rw [Array.getElem?_append_left h]; exact a, List.mem_append.mpr (.inr b)⟩
    · rename_i h
      obtain ⟨T', t', u', a, b⟩ := F'.item (j - l.length) p hp
      rw [← F.size] at h a
      exact ⟨T', t', u', by rw [Array.getElem?_append_right (by omega)]; exact a, List.mem_append.mpr (.inl b)⟩

/-- the contract of `_law_chains` -/
def ChainsCt (c : Cx) (th : List Nat) (n : Nat) : Prop := ∀ (fs : Fs) (ld : Ld) (s : Shared) (A : Around) (Q : Value → Shared → Prop) (Lp Dp : Addr) (od : Obj) (pit : Array Value) (e : Nat) (Ts : Nat → Addr) (vals : Nat → Array Value)
    (Hd Dd : Addr) (dd : Obj) (Ll : Addr) (dit : Array Value) (de : Nat) (g : List (Str × Str)) (Td : Nat → Addr) (vd : Nat → Array Value) (P : Addr) (es : Array DictEntry) (ep : Nat) (pr : Nat → Nat → Int) (mu : Nat → Nat) (ch : List (Nat × Nat)) (x : Nat) (gn : Int) (t1 t2 t3 : Tok),
    St c fs ((Lp, pileObj Dp pit e) :: ld) s → AOk (n + 8) A → (Dp, od) ∈ ld → PDict od → Holds ld pit (chStr ch) Ts vals → Deals ld Hd Dd dd Ll dit de g Td vd → Mu g mu → Price c ld P es ep pr → x ∈ ltrs → ch.length + n ≤ 8 → n ≤ 6 →
    (th.filter fun q => decide (q ∉ chL ch)).length ≤ n →
    (∀ s' e' Fa fit ef new, St c fs ((Lp, pileObj Dp pit e') :: (Fa, listO fit ef) :: (new ++ ld)) s' → Found new fit (chainsS mu pr th n ch x gn) → Q (.ref Fa) s') →
    wpAny c.MD A (call (.ref 308) [.ref P, .ref Hd, .str ⟨th.toArray⟩ t1, .ref Lp, .str (L1 x) t2, .int gn t3] []) Q NoE s

theorem chains_step (IH : ∀ k, n = k + 1 → ChainsCt c th k) (ok : c.Ok) (I : St c fs ((Lp, pileObj Dp pit e) :: ld) s) (hA : AOk (n + 8) A) (hD : (Dp, od) ∈ ld) (hp : PDict od) {ch : List (Nat × Nat)} (H : Holds ld pit (chStr ch) Ts vals)
    (D : Deals ld Hd Dd dd Ll dit de g Td vd) (hM : Mu g mu) (hP : Price c ld P es ep pr) {x : Nat} (hx : x ∈ ltrs) (hth : ∀ q ∈ th, q ∈ ltrs) (hth6 : th.length ≤ 6) (hch : ch.length + n ≤ 8) (hn6 : n ≤ 6) (hfil : (th.filter fun q => decide (q ∉ chL ch)).length ≤ n) {gn : Int} {t1 t2 t3 : Tok}
    (hQ : ∀ s' e' Fa fit ef new, St c fs ((Lp, pileObj Dp pit e') :: (Fa, listO fit ef) :: (new ++ ld)) s' → Found new fit (chainsS mu pr th n ch x gn) → Q (.ref Fa) s') :
    wpAny c.MD A (call (.ref 308) [.ref P, .ref Hd, .str ⟨th.toArray⟩ t1, .ref Lp, .str (L1 x) t2, .int gn t3] []) Q NoE s := by
  refine callF (args := ⟨_, _⟩) I hA (kg ok rfl rfl) ⟨_, _, _, _, rfl, kg ok rfl rfl, rfl, rfl⟩ rfl (BindsTo.of_eq rfl) (by decide) (locs rfl) rfl rfl rfl rfl rfl ?_
  intro L s' env N hcells I' hA'
  clear hcells
  replace ⟨m0, hm0, I'⟩ : ∃ m0 : Str → Option Value, (m0 "price" = some (.ref P) ∧ m0 "deals" = some (.ref Hd) ∧ m0 "there" = some (.str ⟨th.toArray⟩ t1) ∧ m0 "pile" = some (.ref Lp) ∧ m0 "x" = some (.str (L1 x) t2) ∧ m0 "gain" = some (.int gn t3)) ∧
      St c ((L, m0) :: fs) ((Lp, pileObj Dp pit e) :: ld) s' := ⟨_, ⟨rfl, rfl, rfl, rfl, rfl, rfl⟩, I'⟩
  obtain ⟨hm1, hm2, hm3, hm4, hm5, hm6⟩ := hm0
  repeat (walk_at "st")
  refine rCallM (by intro a; exact nofun) ?_
  repeat (walk_at "st")
  refine kso_call (K := c.K) (f := 122) (by have := hA'.un; show _ < 9900; simp only [Around.in1_units]; omega) I'.kx (I'.inst hD) (by kernel_rfl) (by kernel_rfl) ?_
  refine str_ct ok I' hA'.in1.in1 hD H chStr_one (by rw [chStr_len]; omega) ?_
  intro s1 tc I1
  show wpAny _ _ _ _ _ _
  repeat (walk_at "st")
  refine ⟨_, _, by assumption, Nat.le_of_ble_eq_true rfl, ?_⟩
  intro T0 s2 I2
  repeat (walk_at "st")
  refine ⟨_, _, by assumption, Nat.le_of_ble_eq_true rfl, ?_⟩
  intro Fa s3 I3
  repeat (walk_at "st")
  let fm (m : Str → Option Value) : Prop := m "price" = some (.ref P) ∧ m "deals" = some (.ref Hd) ∧ m "there" = some (.str ⟨th.toArray⟩ t1) ∧ m "pile" = some (.ref Lp) ∧ m "x" = some (.str (L1 x) t2) ∧ m "gain" = some (.int gn t3) ∧ m "chain" = some (.str (chW ch) tc) ∧ m "found" = some (.ref Fa)
  let body : Nat → List (Int × List (Nat × Nat)) := bodyS mu pr th n ch x gn
  have hpsz : pit.size ≤ 8 := by rw [H.size, chStr_len]; omega
  refine rForStr (L := L) (fs := fs) (x := ⟨th.toArray⟩) ?_ hA'.hh (fun i m ld' => fm m ∧ ∃ e' ef fit new, ld' = (Lp, pileObj Dp pit e') :: (Fa, listO fit ef) :: new ++ ld ∧ Found new fit ((gn, ch) :: (th.take i).flatMap body)) (fun _ => rfl) ?_ ?_ ?_
  · have h128 : ∀ q ∈ ltrs, q < 128 := by decide
    show th.toArray.all (fun q => decide (q < 128)) = true
    rw [List.all_toArray, List.all_eq_true]
    intro q hq
    exact decide_eq_true (h128 q (hth q hq))
  · repeat (walk_at "st")
    refine ⟨_, _, (Lp, pileObj Dp pit e) :: (Fa, listO #[.ref T0] 0) :: [(T0, tup #[.int gn t3, .str (chW ch) tc])] ++ ld, rfl, St.perm (by assumption) ?_, ⟨by walk_at "lk", by walk_at "lk", by walk_at "lk", by walk_at "lk", by walk_at "lk", by walk_at "lk", by walk_at "lk", by walk_at "lk"⟩, e, 0, #[.ref T0], [(T0, tup #[.int gn t3, .str (chW ch) tc])], rfl, ?_⟩
    · exact (List.Perm.swap _ _ _).trans (List.Perm.cons _ (List.Perm.swap _ _ _))
    · refine ⟨rfl, fun j p hj => ?_⟩
      cases j with
      | zero => cases hj; exact ⟨T0, t3, tc, rfl, .head _⟩
      | succ j => cases hj
  · rintro i q tq m ld' Ia oI s4 hq ⟨hm, e', ef, fit, new, rfl, hF⟩ I4
    refine wpAny_assign_Name (rStore I4 N rfl rfl fun s5 I5 => ?_)
    repeat (walk_at "st")
    have hq' : th[i]? = some q := by simpa using hq
    obtain ⟨k1, k2, k3, k4, k5, k6, k7, k8⟩ := hm
    refine rInK ?_
    repeat (walk_at "st")
    refine rInA ?_
    refine PyProof.Rows.eq_bool ?_
    refine wpAny_truthy_bool ?_
    cases hb1 : isK q == isA x
    · rw [if_neg (by decide)]
      rw [if_neg (by decide)]
      repeat (walk_at "st")
      refine ⟨_, _, ?_, by assumption⟩
      refine ⟨⟨by walk_at "lk", by walk_at "lk", by walk_at "lk", by walk_at "lk", by walk_at "lk", by walk_at "lk", by walk_at "lk", by walk_at "lk"⟩, e', ef, fit, new, rfl, hF.skip hq' ?_⟩
      show bodyS mu pr th n ch x gn q = []
      cases n with
      | zero => rfl
      | succ n => rw [bodyS_succ, if_neg (by rintro ⟨h, _⟩; rw [h] at hb1; simp at hb1)]
    · rw [if_pos rfl]
      repeat (walk_at "st")
      refine rNotCh ?_
      refine wpAny_truthy_bool ?_
      by_cases hqc : q ∈ chL ch
      · rw [decide_eq_true hqc, if_neg (by decide), if_neg (by decide)]
        repeat (walk_at "st")
        refine ⟨_, _, ?_, by assumption⟩
        refine ⟨⟨by walk_at "lk", by walk_at "lk", by walk_at "lk", by walk_at "lk", by walk_at "lk", by walk_at "lk", by walk_at "lk", by walk_at "lk"⟩, e', ef, fit, new, rfl, hF.skip hq' ?_⟩
        show bodyS mu pr th n ch x gn q = []
        cases n with
        | zero => rfl
        | succ n => rw [bodyS_succ, if_neg (by rintro ⟨_, h⟩; exact h hqc)]
      · rw [decide_eq_false hqc, if_pos (by decide)]
        have hqth : q ∈ th := List.mem_of_getElem? hq'
        obtain ⟨n', rfl⟩ : ∃ n', n = n' + 1 := by
          cases n with
          | zero =>
            have : (th.filter fun q => decide (q ∉ chL ch)) = [] := List.length_eq_zero_iff.mp (Nat.le_zero.mp hfil)
            have := List.filter_eq_nil_iff.mp this q hqth
            exact absurd (decide_eq_true hqc) this
          | succ n => exact ⟨n, rfl⟩
        repeat (walk_at "st")
        rw [if_pos rfl]
        repeat (walk_at "st")
        refine rAssignT ?_
        repeat (walk_at "st")
        refine rCallKw (kg ok rfl rfl) ?_
        repeat (walk_at "st")
        refine Attribute_Name_ ?_
        repeat (walk_at "st")
        refine rBoundGet (by assumption) (D.mono fun p hp => List.mem_cons_of_mem _ (List.mem_append.mpr (.inr hp))) ?_
        intro B s6 I6
        repeat (walk_at "st")
        refine ⟨⟨_, _, by assumption⟩, ?_⟩
        have hqt : q ∈ ltrs := hth q (List.mem_of_getElem? hq')
        refine info_mu (n := 0) ok (by assumption) (hA'.mono (by omega)) (D.mono fun p hp => List.mem_cons_of_mem _ (List.mem_cons_of_mem _ (List.mem_append.mpr (.inr hp)))) hM hqt (.head _) ?_
        intro T tw s7 I7
        refine rAssign2 hA'.hh I7 N rfl rfl rfl (.head _) ?_
        intro s8 I8
        repeat (walk_at "st")
        refine wpAny_is_plain rfl ?_
        refine wpAny_truthy_bool ?_
        rw [if_neg (by rw [show (Value.str (L1 (mu q)) tw == Value.none) = false from rfl]; decide)]
        repeat (walk_at "st")
        refine ne_str ?_
        refine wpAny_truthy_bool ?_
        rw [if_neg (by simp)]
        repeat (walk_at "st")
        rw [if_neg (by decide)]
        repeat (walk_at "st")
        have I9 : St c _ ((Lp, pileObj Dp pit e') :: (Ia, oI) :: (Fa, listO fit ef) :: (new ++ ld)) s8 := (I8.drop.drop).perm (List.Perm.swap _ _ _)
        have hD' : (Dp, od) ∈ (Ia, oI) :: (Fa, listO fit ef) :: (new ++ ld) := List.mem_cons_of_mem _ (List.mem_cons_of_mem _ (List.mem_append.mpr (.inr hD)))
        clear I8 I7 I6 I5 I4
        refine rExpr (by assumption) rfl rfl ?_
        refine MethodCall_ ?_
        repeat (walk_at "st")
        refine method_f2 I9.kx (I9.inst hD') fa_ga canon_list_getattribute fa_gt fa_push (by kernel_rfl) (hp.sh rfl) ?_
        refine rCallRef (kg ok rfl rfl) ?_
        repeat (walk_at "st")
        refine ⟨⟨_, _, I9⟩, ?_⟩
        refine push_ct ok I9 (hA'.mono (m := n' + 1 + 7) (n := 0 + 1) (by omega)) hD' (by omega) hp ?_
        intro s9 tp ep' I10
        clear I9
        repeat (walk_at "st")
        rename_i t6 s12 I12
        clear I10
        refine eq_str ?_
        refine wpAny_truthy_bool ?_
        rw [dash]
        have hmu0 := hM q hqt
        have hxq : (isA x = true ∧ isK q = true) ∨ (isK x = true ∧ isA q = true) := sides hx hqt (beq_iff_eq.mp hb1)
        cases h45 : L1 (mu q) == L1 45
        · rw [if_neg (by decide)]
          have hmu : mu q ≠ 45 := fun h => by rw [h] at h45; simp at h45
          have hmul : mu q ∈ ltrs := by
            rcases hmu0 with ⟨h, _⟩ | ⟨h, _⟩
            · exact absurd h hmu
            · exact h
          have hside2 : (isA q = true ∧ isK (mu q) = true) ∨ (isK q = true ∧ isA (mu q) = true) := by
            refine sides hqt hmul ?_
            rcases hmu0 with ⟨h, _⟩ | ⟨_, h, _⟩
            · exact absurd h hmu
            · have a := isA_K hqt
              have b := isA_K hmul
              rw [h] at b
              rw [a, b]; simp
          repeat (walk_at "st")
          refine rExpr (by assumption) rfl rfl ?_
          refine MethodCall_ ?_
          repeat (walk_at "st")
          refine getMethod_list_extend (I12.ob _ (.tail _ (.tail _ (.tail _ (.head _))))) rfl rfl ?_
          refine callWith_method1 ?_
          repeat (walk_at "st")
          refine rCallRef (kg ok rfl rfl) ?_
          repeat (walk_at "st")
          refine Subscript_ ?_
          repeat (walk_at "st")
          refine PyProof.Rows.add_str ?_ (Nat.le_of_ble_eq_true rfl)
          intro t4 k4
          refine rPrice (x := x) (q := q) (I12.tok (tk := k4)) (hP.mono ?_) hxq ?_
          · intro p hp; simp only [List.mem_cons, List.mem_append]; exact .inr (.inr (.inr (.inr (.inr hp))))
          intro t5 s11 I11
          refine add_int ?_
          replace I11 := I11.tok (tk := s11.toks + 1)
          repeat (walk_at "st")
          refine Subscript_ ?_
          repeat (walk_at "st")
          refine PyProof.Rows.add_str ?_ (Nat.le_of_ble_eq_true rfl)
          intro t7 k7
          refine rPrice (x := q) (q := mu q) (I11.tok (tk := k7)) (hP.mono ?_) ?_ ?_
          · intro p hp; simp only [List.mem_cons, List.mem_append]; exact .inr (.inr (.inr (.inr (.inr hp))))
          · exact hside2
          intro t8 s13 I13
          refine sub_int ?_
          replace I13 := I13.tok (tk := s13.toks + 1)
          repeat (walk_at "st")
          refine ⟨⟨_, _, I13⟩, ?_⟩
          have hD2 : (Dp, od) ∈ (tp, tup #[.str (L1 x) t2, .str (L1 q) tq]) :: (Ia, oI) :: (Fa, listO fit ef) :: (new ++ ld) := .tail _ hD'
          have hsub : ∀ p ∈ ld, p ∈ (tp, tup #[.str (L1 x) t2, .str (L1 q) tq]) :: (Ia, oI) :: (Fa, listO fit ef) :: (new ++ ld) := by
            intro p hp; simp only [List.mem_cons, List.mem_append]; exact .inr (.inr (.inr (.inr hp)))
          obtain ⟨Ts2, vals2, H2⟩ : ∃ Ts2 vals2, Holds ((tp, tup #[.str (L1 x) t2, .str (L1 q) tq]) :: (Ia, oI) :: (Fa, listO fit ef) :: (new ++ ld)) (pit.push (.ref tp)) (chStr (ch ++ [(x, q)])) Ts2 vals2 := by
            have := H.push (tp := tp) (a := L1 x) (b := L1 q) (t := t2) (u := tq)
            unfold chStr at this ⊢
            rw [List.map_append]
            refine ⟨_, _, this.mono fun p hp => ?_⟩
            rcases List.mem_cons.mp hp with rfl | hp
            · exact .head _
            · simp only [List.mem_cons, List.mem_append]; exact .inr (.inr (.inr (.inr hp)))
          refine IH n' rfl _ _ _ _ _ _ _ _ _ _ _ _ _ _ _ _ _ _ _ _ _ _ _ _ _ _ _ _ _ _ _ _ I13 (hA'.mono (by omega)) hD2 hp H2 (D.mono hsub) hM (hP.mono hsub) hmul ?_ (by omega) ?_ ?_
          · rw [List.length_append]; simp only [List.length_cons, List.length_nil]; omega
          · have := filter_lt (l := th) (p := fun q => decide (q ∉ chL ch)) (p' := fun q' => decide (q' ∉ chL (ch ++ [(x, q)]))) (fun a h => by
              simp only [decide_eq_true_eq, chL_snoc, List.mem_append, not_or] at h ⊢; exact h.1) hqth (decide_eq_true hqc) (by
              simp only [decide_eq_false_iff_not, chL_snoc, List.mem_append, List.mem_cons]; simp)
            omega
          intro s14 e14 Fb fit2 ef2 new2 I14 hF2
          repeat (walk_at "st")
          have hbody : body q = chainsS mu pr th n' (ch ++ [(x, q)]) (mu q) (gn + pr x q - pr q (mu q)) := by
            show bodyS mu pr th (n' + 1) ch x gn q = _
            rw [bodyS_succ, if_pos ⟨beq_iff_eq.mp hb1, hqc⟩, if_neg hmu]
          have hF3 := hF.append hF2
          have hF4 : Found (new2 ++ new) (fit ++ fit2) ((gn, ch) :: (th.take (i + 1)).flatMap body) := by
            rw [List.take_add_one, hq', List.flatMap_append]
            simpa [hbody] using hF3
          have hF5 := hF4.size
          have hF6 := part_len mu pr hth6 hn6 ch x gn (i + 1)
          have pm := (List.perm_middle (l₁ := [(Lp, pileObj Dp (pit.push (.ref tp)) e14), (Fb, listO fit2 ef2)] ++ new2 ++ [(tp, tup #[Value.str (L1 x) t2, Value.str (L1 q) tq]), (Ia, oI)]) (a := (Fa, listO fit ef)) (l₂ := new ++ ld)).symm
          simp only [List.append_assoc, List.cons_append, List.nil_append] at pm
          replace I14 := I14.perm pm
          clear I13 pm
          refine rExtendL (gi := fit2) (eg := ef2) I14 (.tail _ (.head _)) (by rw [Array.size_append] at hF5; change _ = ((gn, ch) :: List.flatMap (bodyS mu pr th (n' + 1) ch x gn) (List.take (i + 1) th)).length at hF5; omega) ?_
          intro s15 e15 I15
          clear I14
          repeat (walk_at "st")
          replace I15 := I15.perm (List.Perm.swap _ _ _)
          have hD3 : (Dp, od) ∈ (Fa, listO (fit ++ fit2) e15) :: (Fb, listO fit2 ef2) :: (new2 ++ (tp, tup #[Value.str (L1 x) t2, Value.str (L1 q) tq]) :: (Ia, oI) :: (new ++ ld)) := by
            simp only [List.mem_cons, List.mem_append]; exact .inr (.inr (.inr (.inr (.inr (.inr hD)))))
          refine rExpr (by assumption) rfl rfl ?_
          refine MethodCall_ ?_
          repeat (walk_at "st")
          refine method_f2 I15.kx (I15.inst hD3) fa_ga canon_list_getattribute fa_gt fa_pop (by kernel_rfl) (hp.sh rfl) ?_
          refine callWith_K0 I15.kx (by kernel_rfl) ?_
          refine pop_ct (n := n') ok I15 (hA'.mono (by omega)) hD3 hp (by omega) ?_
          intro s16 e16 I16
          repeat (walk_at "st")
          have pm2 := (List.perm_middle (l₁ := [(Lp, pileObj Dp pit e16), (Fa, listO (fit ++ fit2) e15)] ++ new2) (a := (Ia, oI)) (l₂ := new ++ ld)).symm
          simp only [List.append_assoc, List.cons_append, List.nil_append] at pm2
          have I17 := (I16.subl (List.Sublist.cons_cons _ (List.Sublist.cons_cons _ (List.Sublist.cons _ (List.Sublist.append (List.Sublist.refl new2) (List.Sublist.cons _ (List.Sublist.refl _))))))).perm pm2
          refine ⟨_, (Lp, pileObj Dp pit e16) :: (Fa, listO (fit ++ fit2) e15) :: (new2 ++ new) ++ ld, ?_, by simp only [List.append_assoc, List.cons_append]; exact I17⟩
          exact ⟨⟨by walk_at "lk", by walk_at "lk", by walk_at "lk", by walk_at "lk", by walk_at "lk", by walk_at "lk", by walk_at "lk", by walk_at "lk"⟩, e16, e15, _, _, rfl, hF4⟩
        · rw [if_pos rfl]
          repeat (walk_at "st")
          refine rExpr (by assumption) rfl rfl ?_
          refine MethodCall_ ?_
          repeat (walk_at "st")
          refine getMethod_list_append (I12.ob _ (.tail _ (.tail _ (.tail _ (.head _))))) rfl rfl ?_
          refine callWith_method1 ?_
          repeat (walk_at "st")
          refine Subscript_ ?_
          repeat (walk_at "st")
          refine PyProof.Rows.add_str ?_ (Nat.le_of_ble_eq_true rfl)
          intro t4 k4
          refine rPrice (x := x) (q := q) (I12.tok (tk := k4)) (hP.mono ?_) hxq ?_
          · intro p hp; simp only [List.mem_cons, List.mem_append]; exact .inr (.inr (.inr (.inr (.inr hp))))
          intro t5 s11 I11
          refine add_int ?_
          replace I11 := I11.tok (tk := s11.toks + 1)
          repeat (walk_at "st")
          refine rCallM (by intro a; exact nofun) ?_
          repeat (walk_at "st")
          have hD2 : (Dp, od) ∈ (tp, tup #[.str (L1 x) t2, .str (L1 q) tq]) :: (Ia, oI) :: (Fa, listO fit ef) :: (new ++ ld) := .tail _ hD'
          obtain ⟨Ts2, vals2, H2⟩ : ∃ Ts2 vals2, Holds ((tp, tup #[.str (L1 x) t2, .str (L1 q) tq]) :: (Ia, oI) :: (Fa, listO fit ef) :: (new ++ ld)) (pit.push (.ref tp)) (chStr (ch ++ [(x, q)])) Ts2 vals2 := by
            have := H.push (tp := tp) (a := L1 x) (b := L1 q) (t := t2) (u := tq)
            unfold chStr at this ⊢
            rw [List.map_append]
            refine ⟨_, _, this.mono fun p hp => ?_⟩
            rcases List.mem_cons.mp hp with rfl | hp
            · exact .head _
            · simp only [List.mem_cons, List.mem_append]; exact .inr (.inr (.inr (.inr hp)))
          refine kso_call (K := c.K) (f := 122) (by have := hA'.un; show (A.deeper env).units + 1 + 1 < 9900; omega) I11.kx (I11.inst hD2) (by kernel_rfl) (by kernel_rfl) ?_
          refine str_ct ok I11 (n := n') (hA'.in1.in1.mono (by omega)) hD2 H2 chStr_one (by rw [chStr_len, List.length_append]; simp only [List.length_cons, List.length_nil]; omega) ?_
          intro s13 tc2 I13
          show wpAny _ _ _ _ _ _
          repeat (walk_at "st")
          refine ⟨_, _, by assumption, Nat.le_of_ble_eq_true rfl, ?_⟩
          intro T1 s14 I14
          repeat (walk_at "st")
          replace I14 := I14.perm (List.perm_middle (l₁ := [(T1, _), (Lp, _), (tp, _), (Ia, oI)]) (a := (Fa, listO fit ef)) (l₂ := new ++ ld)).symm
          refine rAppendL I14 ?_ ?_
          · have h1 := hF.size
            change _ = ((gn, ch) :: List.flatMap (bodyS mu pr th (n' + 1) ch x gn) (List.take i th)).length at h1
            have h2 := part_len mu pr hth6 hn6 ch x gn i
            omega
          intro s15 e15 I15
          clear I13 I14
          repeat (walk_at "st")
          replace I15 := I15.perm (List.perm_middle (l₁ := [(Fa, _), (T1, _)]) (a := (Lp, _)) (l₂ := (tp, _) :: (Ia, oI) :: (new ++ ld))).symm
          have hD3 : (Dp, od) ∈ (Fa, listO (fit.push (.ref T1)) e15) :: (T1, tup #[.int (gn + pr x q) s11.toks, .str (chW (ch ++ [(x, q)])) tc2]) :: (tp, tup #[.str (L1 x) t2, .str (L1 q) tq]) :: (Ia, oI) :: (new ++ ld) := by
            simp only [List.mem_cons, List.mem_append]; exact .inr (.inr (.inr (.inr (.inr hD))))
          refine rExpr (by assumption) rfl rfl ?_
          refine MethodCall_ ?_
          repeat (walk_at "st")
          refine method_f2 I15.kx (I15.inst hD3) fa_ga canon_list_getattribute fa_gt fa_pop (by kernel_rfl) (hp.sh rfl) ?_
          refine callWith_K0 I15.kx (by kernel_rfl) ?_
          refine pop_ct (n := n') ok I15 (hA'.mono (by omega)) hD3 hp (by omega) ?_
          intro s16 e16 I16
          repeat (walk_at "st")
          have hmu : mu q = 45 := by
            have := beq_iff_eq.mp h45
            have := congrArg (fun s : Str => s.cps.toList) this
            simpa using this
          have hbody : body q = [(gn + pr x q, ch ++ [(x, q)])] := by
            show bodyS mu pr th (n' + 1) ch x gn q = _
            rw [bodyS_succ, if_pos ⟨beq_iff_eq.mp hb1, hqc⟩, if_pos hmu]
          have I17 := (I16.subl (List.Sublist.cons_cons _ (List.Sublist.cons_cons _ (List.Sublist.cons_cons _ (List.Sublist.cons _ (List.Sublist.refl _)))))).perm (List.perm_middle (l₁ := [(Lp, _), (Fa, _), (T1, _)]) (a := (Ia, oI)) (l₂ := new ++ ld)).symm
          refine ⟨_, (Lp, pileObj Dp pit e16) :: (Fa, listO (fit.push (.ref T1)) e15) :: ((T1, tup #[.int (gn + pr x q) s11.toks, .str (chW (ch ++ [(x, q)])) tc2]) :: new) ++ ld, ?_, I17⟩
          refine ⟨⟨by walk_at "lk", by walk_at "lk", by walk_at "lk", by walk_at "lk", by walk_at "lk", by walk_at "lk", by walk_at "lk", by walk_at "lk"⟩, e16, e15, _, _, rfl, ?_⟩
          rw [List.take_add_one, hq', List.flatMap_append]
          have := hF.push (T := T1) (v := gn + pr x q) (ch := ch ++ [(x, q)]) (t := s11.toks) (u := tc2)
          simpa [hbody] using this
  · rintro m ld' s4 ⟨hm, e', ef, fit, new, rfl, hF⟩ I4
    obtain ⟨k1, k2, k3, k4, k5, k6, k7, k8⟩ := hm
    repeat (walk_at "st")
    refine hQ _ _ _ _ _ _ I4.dropFr ?_
    rw [chainsS_eq]
    have h : th.take (({ cps := th.toArray } : Str).cps.size) = th := by show th.take th.toArray.size = th; simp
    rw [h] at hF
    exact hF

theorem chains_ct (ok : c.Ok) (hth : ∀ q ∈ th, q ∈ ltrs) (hth6 : th.length ≤ 6) : ∀ n, ChainsCt c th n := by
  intro n
  induction n with
  | zero =>
    intro fs ld s A Q Lp Dp od pit e Ts vals Hd Dd dd Ll dit de g Td vd P es ep pr mu ch x gn t1 t2 t3 I hA hD hp H D hM hP hx hch hn hfil hQ
    exact chains_step (fun k h => absurd h (by omega)) ok I hA hD hp H D hM hP hx hth hth6 hch hn hfil hQ
  | succ n ih =>
    intro fs ld s A Q Lp Dp od pit e Ts vals Hd Dd dd Ll dit de g Td vd P es ep pr mu ch x gn t1 t2 t3 I hA hD hp H D hM hP hx hch hn hfil hQ
    exact chains_step (fun k h => by cases h; exact ih) ok I hA hD hp H D hM hP hx hth hth6 hch hn hfil hQ
end

/-! part F18 -/
section
variable {c : Cx} {fs fs' : Fs} {ld ld' : Ld} {s : Shared} {A : Around} {env : Env} {L : Addr} {m : Str → Option Value} {sc : Scope} {cd : Value}

abbrev testsOf (ifs : List PySem.Expr) (cenv : Env) : Sem Bool :=
  forIn ifs true fun c r => if r = true then do let ok ← isTrue c cenv (eval c cenv); pure (ForInStep.yield ok) else pure (ForInStep.yield r)

theorem rAppendA {Fa : Addr} {fit : Array Value} {ef : Nat} {v : Value} {E : Value → Shared → Prop} {Q : Value → Shared → Prop} (I : St c fs ((Fa, listO fit ef) :: ld) s) (hz : fit.size < 100000) (h : ∀ s' e', St c fs ((Fa, listO (fit.push v) e') :: ld) s' → Q .none s') :
    wpAny c.MD A (call (.builtin "list.append") [.ref Fa, v]) Q E s :=
  wpAny_mono (rAppendL I hz h) (fun _ _ z => z) fun _ _ z => z.elim

theorem compW {R : Result → Shared → Prop} {I acc C : Addr} {fp : List Addr} {n T : Nat} {P0 : Nat → Value → Prop} {P : Nat → Value → Shared → Prop} {StW : Nat → Heap → Prop} {oI : Obj} {target iter elt : PySem.Expr} {ifs : List PySem.Expr} {scope : Scope} {pos : Pos} {cenv : Env}
    (hA : A.handled = none) (W : ∀ A' : Around, A'.handled = none → Walks PySem.Challenge.rw_wk0037_01.row.prog c.w A' I fp [I] n P0 StW)
    (hcr : ∀ i h q, StW i h → ¬ h.CodeRec (.ref I) q) (hfp : ∀ b ∈ fp, b = I ∨ ∃ o, (b, o) ∈ ld)
    (hnext : ∀ i (fs : Fs) (ld : Ld) (oI : Obj) (s : Shared) (Q : Option Value → Shared → Prop) (E : Value → Shared → Prop), i < n → T ≤ s.toks → St c fs ((I, oI) :: ld) s → StW i s.heap →
      (∀ v oI' s', P i v s' → St c fs ((I, oI') :: ld) s' → StW (i + 1) s'.heap → Q (some v) s') → wpAny c.MD A (pyNext (.ref I)) Q E s)
    (hgo : ∀ i v (s : Shared) (Q : Unit → Shared → Prop) (E : Value → Shared → Prop), P i v s → StW (i + 1) s.heap → Q () s → wpAny c.MD A (letOwnedTupleGo target (.ref I) v) Q E s)
    (Acc : Nat → Array Value → Prop) (hsz : ∀ i ys, Acc i ys → ys.size < 100000)
    (step : ∀ i v m ys oI e s, i < n → P i v s → Acc i ys → St c ((C, m) :: fs) ((I, oI) :: (acc, listO ys e) :: ld) s →
      wpAny c.MD A (assign target cenv v) (fun _ s₂ => wpAny c.MD A (testsOf ifs cenv) (fun ok s₃ =>
        if ok = true then wpAny c.MD A (eval elt cenv) (fun y s₄ => ∃ m', St c ((C, m') :: fs) ((I, oI) :: (acc, listO ys e) :: ld) s₄ ∧ Acc (i + 1) (ys.push y)) NoE s₃
        else ∃ m', St c ((C, m') :: fs) ((I, oI) :: (acc, listO ys e) :: ld) s₃ ∧ Acc (i + 1) ys) NoE s₂) NoE s)
    (exit : ∀ m ys e s, Acc n ys → St c ((C, m) :: fs) ((acc, listO ys e) :: ld) s → R (.ok .next) s)
    (S : St c ((C, m) :: fs) ((I, oI) :: (acc, listO #[] 0) :: ld) s) (hs : StW 0 s.heap) (h0 : Acc 0 #[]) (hT : T ≤ s.toks) :
    codeAny c.MD A (.compLoop (.ListComp elt [⟨target, iter, ifs, 0⟩] scope pos) 0 (.ref I) (.ref acc) cenv) R s := by
  refine codeAny_loop rfl (fun k s => ∃ i m ys oI e, k = n + 1 - i ∧ i ≤ n ∧ Acc i ys ∧ St c ((C, m) :: fs) ((I, oI) :: (acc, listO ys e) :: ld) s ∧ StW i s.heap ∧ T ≤ s.toks) ?_ (n + 1) ⟨0, m, #[], oI, 0, rfl, Nat.zero_le _, h0, S, hs, hT⟩
  rintro k s ⟨i, m, ys, oI, e, rfl, hi, hacc, S, hs, hT⟩
  refine wpAny_with_toks hT ?_
  show wpAny _ A ((compTurn (.ListComp elt [⟨target, iter, ifs, 0⟩] scope pos) 0 (.ref I) (.ref acc) cenv).onRaise (fun x => do noteFrame x cenv; theTreesLotGoes x)) _ _ s
  refine wpAny_noted ?_
  rw [compTurn_list]
  refine wpAny_bind (wpAny_standAt (wpAny_bind ?_))
  rcases Nat.lt_or_ge i n with hlt | hge
  · refine hnext i _ _ _ s _ _ hlt hT S hs fun v oI' s' hv S' hs' => ?_
    refine wpAny_bind (hgo i v _ _ _ hv hs' ?_)
    refine wpAny_bind (wpAny_mono (step i v m ys oI' e s' hlt hv hacc S') (fun _ s₂ h₂ => wpAny_bind (wpAny_mono h₂ (fun ok s₃ h₃ => ?_) fun _ _ z => z.elim)) fun _ _ z => z.elim)
    have key : ∀ {m' ys' e' s₃}, St c ((C, m') :: fs) ((I, oI') :: (acc, listO ys' e') :: ld) s₃ → Acc (i + 1) ys' → T ≤ s₃.toks → ∃ k, k < n + 1 - i ∧ ∃ j m ys oI e, k = n + 1 - j ∧ j ≤ n ∧ Acc j ys ∧ St c ((C, m) :: fs) ((I, oI) :: (acc, listO ys e) :: ld) s₃ ∧ StW j s₃.heap ∧ T ≤ s₃.toks := by
      intro m' ys' e' s₃ S₃ hA' hT'
      refine ⟨n + 1 - (i + 1), by omega, i + 1, m', ys', oI', e', rfl, hlt, hA', S₃, ?_, hT'⟩
      refine (W A hA).frame _ _ _ hs' fun b hb o e => ?_
      rcases hfp b hb with rfl | ⟨ob, hob⟩
      · rw [S'.ob _ (.head _)] at e
        cases e
        exact S₃.ob _ (.head _)
      · rw [S'.ob _ (.tail _ (.tail _ hob))] at e
        cases e
        exact S₃.ob _ (.tail _ (.tail _ hob))
    cases ok with
    | false =>
      rw [if_neg (by decide)] at h₃
      obtain ⟨m', S₃, hA'⟩ := h₃
      exact wpAny_pure fun hT' => ⟨rfl, key S₃ hA' hT'⟩
    | true =>
      rw [if_pos rfl] at h₃
      refine wpAny_bind (wpAny_bind (wpAny_mono h₃ (fun y s₄ h₄ => ?_) fun _ _ z => z.elim))
      obtain ⟨m', S₄, hA'⟩ := h₄
      refine wpAny_bind (rAppendA (S₄.perm (List.Perm.swap _ _ _)) (hsz _ _ hacc) fun s₅ e₅ S₅ => ?_)
      exact wpAny_pure (wpAny_pure fun hT' => ⟨rfl, key (S₅.perm (List.Perm.swap _ _ _)) hA' hT'⟩)
  · obtain rfl : i = n := Nat.le_antisymm hi hge
    refine endW (W A hA) S hs (fun q => hcr _ _ q hs) fun s' S' => ?_
    exact wpAny_pure fun _ => exit m ys e s' hacc S'

theorem ns_no {h : Heap} {C : Addr} {m : Str → Option Value} (y : h.Ns C m) (q : Str) : ¬ h.CodeRec (.ref C) q := by
  rintro ⟨c₂, o₂, vs₂, t₂, e₂, g₂, r₂, r₃⟩
  obtain ⟨o, es, ep, ho, hd, _⟩ := y
  cases e₂
  rw [ho] at g₂
  cases g₂
  rw [hd] at r₂
  cases r₂

/-- a list comprehension over anything that is walked; the iterator is the newest object -/
theorem rCompW {target iter elt : PySem.Expr} {ifs : List PySem.Expr} {scope sc' : Scope} {cl : List (Str × Addr)} {pos : Pos} {n T : Nat} {P0 : Nat → Value → Prop} {P : Nat → Value → Shared → Prop} {Q : Value → Shared → Prop}
    (hA : A.handled = none) (N : EnvIs env L sc cd) (hclos : closureFor scope env = pure cl) (hrel : relabel scope env = sc') (hcell : ∀ y ∈ scope.names, y.2 ≠ .cell) (hkind : scope.kind = .function)
    (hnames : ∀ y ∈ scope.names, y.2 = .local → scope.names.lookup y.1 = some .local) (Acc : Nat → Array Value → Prop) (hsz : ∀ i ys, Acc i ys → ys.size < 100000) (h0 : Acc 0 #[])
    (hs : ∀ x, foldedSetIterable iter env x = pure x)
    (h : wpAny c.MD A (eval iter env) (fun x s₁ => wpAny c.MD A (pyIter x) (fun it s₂ => ∃ I oI fp fs ld StW, it = .ref I ∧ St c fs ((I, oI) :: ld) s₂ ∧ (∀ A' : Around, A'.handled = none → Walks PySem.Challenge.rw_wk0037_01.row.prog c.w A' I fp [I] n P0 StW) ∧ T ≤ s₂.toks ∧
      (∀ i (fs : Fs) (ld : Ld) (oI : Obj) (s : Shared) (Q : Option Value → Shared → Prop) (E : Value → Shared → Prop), i < n → T ≤ s.toks → St c fs ((I, oI) :: ld) s → StW i s.heap →
        (∀ v oI' s', P i v s' → St c fs ((I, oI') :: ld) s' → StW (i + 1) s'.heap → Q (some v) s') → wpAny c.MD A (pyNext (.ref I)) Q E s) ∧ (∀ i h q, StW i h → ¬ h.CodeRec (.ref I) q) ∧ (∀ b ∈ fp, b = I ∨ ∃ o, (b, o) ∈ ld) ∧ StW 0 s₂.heap ∧
      (∀ i v (s : Shared) (Q : Unit → Shared → Prop) (E : Value → Shared → Prop), P i v s → StW (i + 1) s.heap → Q () s → wpAny c.MD A (letOwnedTupleGo target (.ref I) v) Q E s) ∧
      (∀ C acc cenv, EnvIs cenv C sc' cd → cenv.cells = cl → ∀ i v m ys oI e s, i < n → P i v s → Acc i ys → St c ((C, m) :: fs) ((I, oI) :: (acc, listO ys e) :: ld) s →
        wpAny c.MD A (assign target cenv v) (fun _ s₂ => wpAny c.MD A (testsOf ifs cenv) (fun ok s₃ =>
          if ok = true then wpAny c.MD A (eval elt cenv) (fun y s₄ => ∃ m', St c ((C, m') :: fs) ((I, oI) :: (acc, listO ys e) :: ld) s₄ ∧ Acc (i + 1) (ys.push y)) NoE s₃
          else ∃ m', St c ((C, m') :: fs) ((I, oI) :: (acc, listO ys e) :: ld) s₃ ∧ Acc (i + 1) ys) NoE s₂) NoE s) ∧
      (∀ acc ys e s, Acc n ys → St c fs ((acc, listO ys e) :: ld) s → Q (.ref acc) s)) NoE s₁) NoE s) :
    wpAny c.MD A (eval (.ListComp elt [⟨target, iter, ifs, 0⟩] scope pos) env) Q NoE s := by
  rw [eval_ListComp]
  refine wpAny_comprehension_free (use := none) rfl hs hclos hkind hnames (wpAny_mono h (fun x s₁ h₁ => wpAny_mono h₁ (fun it s₂ h₂ => ?_) fun _ _ z => z) fun _ _ z => z)
  obtain ⟨I, oI, fp, fs, ld, StW, rfl, S, W, hT, hnext, hcr, hfp, hst, hgo, step, exit⟩ := h₂
  have S1 := (S.new (tk := s₂.toks) (o := listO #[] 0) rfl (Heap.get?_push_size _ rfl) fun b o e => Heap.get?_push_of_some _ e).perm (List.Perm.swap _ _ _)
  refine wpAny_newObj_type (wpAny_newFunctionEnv hcell (by intro y hy; simp at hy) (fun h₁ hns₁ hsb₁ => ?_) hkind)
  dsimp only at hns₁ hsb₁ ⊢
  have hk' : ∀ b o, (s₂.heap.push (listO #[] 0)).get? b = some o → h₁.get? b = some o := fun b o e => hsb₁.extBut b o (Nat.ne_of_lt (Heap.lt_size e)) (Heap.get?_push_of_some _ e)
  have S2 := S1.newFr (tk := s₂.toks + ([] : List (Str × Value)).length) rfl hns₁ hk'
  have hst₁ : StW 0 h₁ := (W A hA).frame _ _ _ hst fun b _ o e => hk' _ _ (Heap.get?_push_of_some _ e)
  generalize hC : (s₂.heap.push { cls := .type "list", dict := none, data := .seq ([] : List Value).toArray }).objs.size = C at *
  generalize hac : s₂.heap.objs.size = acc at *
  have loop : codeAny c.MD A (.compLoop (.ListComp elt [⟨target, iter, ifs, 0⟩] scope pos) 0 (.ref I) (.ref acc) (compEnvC scope cl C env)) (compPost c.MD A NoE none Q (.ref acc) C) { s₂ with heap := h₁, toks := s₂.toks + ([] : List (Str × Value)).length } := by
    refine compW (cenv := compEnvC scope cl C env) hA W hcr hfp hnext hgo Acc hsz (step C acc (compEnvC scope cl C env) ⟨hrel, rfl, N.gl, N.bl, N.code⟩ rfl) ?_ S2 hst₁ h0 (Nat.le_add_right_of_le hT)
    intro m ys e s' hacc S'
    refine ⟨m, S'.fr _ (.head _), fun h' hs' => ?_⟩
    have nd := List.nodup_cons.mp S'.nd
    have nb := S'.nb C (.head _)
    refine exit acc ys e _ hacc (St.extW (W := [C]) S'.dropFr (fun b o hb e => hs'.extBut b o (fun h => hb (by simp [h])) e) ?_ ?_ S'.gens rfl)
    · intro b hb
      rcases List.mem_cons.mp hb with rfl | hb
      · exact ⟨nd.1, nb⟩
      · cases hb
    · intro c' o ho hr hm
      rcases List.mem_cons.mp hm with rfl | hm
      · exact ns_no (S'.fr _ (.head _)) _ hr
      · cases hm
  exact codeAny_compStart_list loop ((W A hA).self 0 _ _ _ hst₁ loop)
end

/-! part F19 -/
section
variable {c : Cx} {fs fs' : Fs} {ld ld' : Ld} {s : Shared} {A : Around} {env : Env} {L : Addr} {m : Str → Option Value} {sc : Scope} {cd : Value}

/-- the cells of a frame stand in the ledger -/
def CellsAt (cs : List (Str × Addr)) (cm : Str → Option Value) (ldc : Ld) : Prop := ∀ n a, cs.lookup n = some a → ∃ o, (a, o) ∈ ldc ∧ o.data = .cell (cm n)

theorem St.inCallC {m cm : Str → Option Value} {cs : List (Str × Addr)} {s' : Shared} (I : St c fs ld s) (x : InCallC s L m cs cm s') (hall : ∀ p ∈ cs, cs.lookup p.1 = some p.2) :
    ∃ ldc : Ld, ldc.map (·.1) = cs.map (·.2) ∧ CellsAt cs cm ldc ∧ St c ((L, m) :: fs) (ldc ++ ld) s' := by
  have mk : ∀ l : List (Str × Addr), (∀ p ∈ l, s'.heap.IsCell p.2 (cm p.1)) → ∃ ldc : Ld, ldc.map (·.1) = l.map (·.2) ∧ (∀ q ∈ ldc, s'.heap.get? q.1 = some q.2) ∧ (∀ p ∈ l, ∃ o, (p.2, o) ∈ ldc ∧ o.data = .cell (cm p.1)) := by
    intro l
    induction l with
    | nil => intro _; exact ⟨[], rfl, fun _ h => (nomatch h), fun _ h => (nomatch h)⟩
    | cons p l ih =>
      intro h
      obtain ⟨ldc, e1, e2, e3⟩ := ih fun q hq => h q (.tail _ hq)
      obtain ⟨o, ho, hd⟩ := h p (.head _)
      refine ⟨(p.2, o) :: ldc, by simp [e1], ?_, ?_⟩
      · intro q hq
        rcases List.mem_cons.mp hq with rfl | hq
        · exact ho
        · exact e2 q hq
      · intro q hq
        rcases List.mem_cons.mp hq with rfl | hq
        · exact ⟨o, .head _, hd⟩
        · obtain ⟨o', a, b⟩ := e3 q hq
          exact ⟨o', .tail _ a, b⟩
  obtain ⟨ldc, e1, e2, e3⟩ := mk cs fun p hp => x.cell _ _ (hall p hp)
  have hk := x.toInCall.keep
  have hL := x.toInCall.fresh
  obtain ⟨h', tk, hs'⟩ := x.toInCall.same
  have lt : ∀ a ∈ addrs fs ld, a < s.heap.objs.size := fun a ha => I.lt ha
  have hi : ∀ a ∈ cs.map (·.2), L < a := fun a ha => by
    obtain ⟨p, hp, rfl⟩ := List.mem_map.mp ha
    exact x.above p.1 p.2 hp
  have none' : ∀ a, s.heap.objs.size ≤ a → c.hb.get? a = none ∧ a ≠ PT := fun a ha => by
    refine ⟨?_, fun h => ?_⟩
    · cases q : c.hb.get? a with
      | none => rfl
      | some o => exact absurd (Heap.lt_size (I.base _ _ q)) (Nat.not_lt.mpr ha)
    · obtain ⟨vs, e, _⟩ := I.tb
      rw [← h] at e
      exact absurd (Heap.lt_size e) (Nat.not_lt.mpr ha)
  have pm : (addrs ((L, m) :: fs) (ldc ++ ld)).Perm (L :: (cs.map (·.2) ++ addrs fs ld)) := by
    simp only [addrs, List.map_cons, List.map_append, e1, List.cons_append]
    refine List.Perm.cons _ ?_
    rw [← List.append_assoc, ← List.append_assoc]
    exact List.Perm.append_right _ List.perm_append_comm
  refine ⟨ldc, e1, fun n a h => e3 (n, a) (mem_of_lookup h), ?_⟩
  have hmem : ∀ a ∈ addrs ((L, m) :: fs) (ldc ++ ld), a ∈ addrs fs ld ∨ s.heap.objs.size ≤ a := fun a ha => by
    rcases List.mem_cons.mp (pm.mem_iff.mp ha) with rfl | ha
    · exact .inr hL
    · rcases List.mem_append.mp ha with h | h
      · exact .inr (Nat.le_trans hL (Nat.le_of_lt (hi a h)))
      · exact .inl h
  refine ⟨?_, ?_, pm.nodup_iff.mpr (List.nodup_cons.mpr ⟨fun hm => ?_, List.nodup_append.mpr ⟨?_, I.nd, fun a ha b hb => ?_⟩⟩), ?_, fun b o e => hk b o (I.base b o e), ?_, ?_, ?_, I.ok⟩
  · intro p hp
    rcases List.mem_cons.mp hp with rfl | hp
    · exact x.toInCall.ns
    · exact (I.fr p hp).keeps hk
  · intro p hp
    rcases List.mem_append.mp hp with h | h
    · exact e2 p h
    · exact hk _ _ (I.ob p h)
  · rcases List.mem_append.mp hm with h | h
    · exact Nat.lt_irrefl _ (hi _ h)
    · exact Nat.lt_irrefl _ (Nat.lt_of_lt_of_le (lt _ h) hL)
  · show List.Pairwise _ _
    rw [List.pairwise_map]
    exact x.apart
  · have h1 := hi a ha
    have h2 := lt b hb
    intro h
    subst h
    exact absurd h2 (Nat.not_lt.mpr (Nat.le_trans hL (Nat.le_of_lt h1)))
  · intro a ha
    rcases hmem a ha with h | h
    · exact I.nb a h
    · exact none' a h
  · obtain ⟨vs, e, T⟩ := I.tb
    refine ⟨vs, hk _ _ e, ?_⟩
    rcases T with rfl | ⟨c', o, rfl, ho, hc, hp, hr⟩
    · exact .inl rfl
    · refine .inr ⟨c', o, rfl, hk _ _ ho, fun hm => ?_, hp, hr.keeps hk⟩
      rcases hmem _ hm with h | h
      · exact hc h
      · exact absurd (Heap.lt_size ho) (Nat.not_lt.mpr h)
  · rw [hs']; exact I.gens
  · rw [hs']; exact I.os

abbrev kOf (sc : Scope) : Str → Option NameKind := fun x => sc.names.lookup x

theorem kinds {scope : Scope} {binds : List (Str × Value)} (h : ∀ L, (binds.all fun x => decide (scope.names.lookup x.1 = some .local) || (decide (scope.names.lookup x.1 = some .cell) && ((cellsFrom (L + 1) scope.names []).lookup x.1).isSome)) = true) (L : Nat) :
    ∀ x ∈ binds, scope.names.lookup x.1 = some .local ∨ (scope.names.lookup x.1 = some .cell ∧ ((cellsFrom (L + 1) scope.names []).lookup x.1).isSome = true) := fun x hx => by
  have := List.all_eq_true.mp (h L) x hx
  simp only [Bool.or_eq_true, Bool.and_eq_true, decide_eq_true_eq] at this
  exact this

/-- a call of a def with cells -/
theorem callC {A : Around} {f : Addr} {sl : Array (Option Value)} {fd : FuncData} {body : List Stmt} {args : Args} {binds : List (Str × Value)} {n : Nat} {Q : Value → Shared → Prop}
    (I : St c fs ld s) (hA : AOk (n + 1) A) (hf : c.hb.get? f = some ⟨.type "function", none, .func fd, sl⟩) (hcd : c.hb.CodeRec fd.code fd.qualname)
    (hb : fd.body = .stmts body) (hbind : BindsTo s fd args binds) (hclo : fd.closure = [])
    (hkind : ∀ L, ∀ x ∈ binds, fd.scope.names.lookup x.1 = some .local ∨ (fd.scope.names.lookup x.1 = some .cell ∧ ((cellsFrom (L + 1) fd.scope.names []).lookup x.1).isSome = true))
    (hall : ∀ L, ∀ p ∈ cellsFrom (L + 1) fd.scope.names [], (cellsFrom (L + 1) fd.scope.names []).lookup p.1 = some p.2)
    (hco : fd.scope.isCoroutine = false) (hgen : fd.scope.isGenerator = false) (hk : fd.scope.kind = .function) (hgl : fd.globals = mainGlobals) (hbl : fd.builtins = builtinsNs)
    (h : ∀ L s' env ldc, s.toks ≤ s'.toks → EnvIs env L fd.scope fd.code → env.cells = cellsFrom (L + 1) fd.scope.names [] → ldc.map (·.1) = (cellsFrom (L + 1) fd.scope.names []).map (·.2) →
      CellsAt (cellsFrom (L + 1) fd.scope.names []) (bindC (kOf fd.scope) binds fun _ => none) ldc → St c ((L, bindL (kOf fd.scope) binds fun _ => none) :: fs) (ldc ++ ld) s' → AOk n (A.deeper env) →
      wpAny c.MD (A.deeper env) (execs body env) (fun fl s'' => Q (match fl with | .ret v => v | _ => .none) s'') NoE s') :
    wpAny c.MD A (call (.ref f) args.pos args.kw) Q NoE s := by
  refine wpAny_call ?_
  refine codeAny_call_function (body := body) (by have := hA.dp; show A.depth < 1000; omega) (I.base _ _ hf) rfl hco hgen hb (hcd.keeps I.base) (hbind _ _ _ _ ?_)
  rw [hclo]
  refine wpAny_with_toks (n := s.toks) (Nat.le_refl _) ?_
  refine wpAny_newFunctionEnv_cells hk (hkind _) fun env he s' x htk => ?_
  subst he
  obtain ⟨ldc, e1, hcell, I'⟩ := I.inCallC x (hall _)
  refine ⟨I'.lim, codeAny_func ?_⟩
  exact wpAny_mono (h _ _ _ ldc htk ⟨rfl, rfl, hgl, hbl, rfl⟩ rfl e1 hcell I' hA.deeper) (fun fl s' x => x) (fun _ _ x => x.elim)

theorem rCell {x : Str} {pos : Pos} {a : Addr} {o : Obj} {v : Value} {cs : List (Str × Addr)} {Q : Value → Shared → Prop} (I : St c fs ld s) (N : EnvIs env L sc cd) (hc : env.cells = cs) (ha : (a, o) ∈ ld) (ho : o.data = .cell (some v)) (h : Q v s)
    (hk : sc.kind = .function := by rfl) (hl : sc.names.lookup x = some .cell := by rfl) (hl2 : cs.lookup x = some a := by rfl) (hd : (x == ("__debug__" : Str)) = false := by decide) : wpAny c.MD A (eval (.Name x pos) env) Q NoE s :=
  wpAny_Name (wpAny_loadName_cell (by rw [N.sc]; exact hk) (by unfold Env.kindOf; rw [N.sc]; exact hl) (by rw [hc]; exact hl2) ⟨_, I.ob _ ha, ho⟩ h) hd

theorem rStoreC {x : Str} {cs : List (Str × Addr)} {a : Addr} {o : Obj} {v₀ : Option Value} {v : Value} {Q : Unit → Shared → Prop} (I : St c fs ((a, o) :: ld) s) (N : EnvIs env L sc cd)
    (hc : env.cells = cs) (ho : o.data = .cell v₀) (h : ∀ s' o', o'.data = .cell (some v) → St c fs ((a, o') :: ld) s' → Q () s')
    (hk : sc.kind = .function := by rfl) (hl : sc.names.lookup x = some .cell := by rfl) (hl2 : cs.lookup x = some a := by rfl) : wpAny c.MD A (storeName env x v) Q NoE s := by
  refine wpAny_storeName_cell (by rw [N.sc]; exact hk) (by unfold Env.kindOf; rw [N.sc]; exact hl) (by rw [hc]; exact hl2) ⟨_, I.ob _ (.head _), ho⟩ fun h' hv hs => ?_
  obtain ⟨o', ho', hd'⟩ := hv
  exact h _ o' hd' (I.setOb ho' fun b x hb e => hs.extBut b x hb e)
end

/-! part F20 -/
section
variable {c : Cx} {fs fs' : Fs} {ld ld' : Ld} {s : Shared} {A : Around} {env : Env} {L : Addr} {m : Str → Option Value} {sc : Scope} {cd : Value}

theorem rTests0 {cenv : Env} {E : Value → Shared → Prop} {Q : Bool → Shared → Prop} (h : Q true s) : wpAny c.MD A (testsOf [] cenv) Q E s := by
  show wpAny _ _ (forIn [] true _) _ _ s
  rw [List.forIn_nil]
  exact wpAny_pure h
theorem rTests1 {t : PySem.Expr} {cenv : Env} {E : Value → Shared → Prop} {Q : Bool → Shared → Prop} (h : wpAny c.MD A (isTrue t cenv (eval t cenv)) Q E s) : wpAny c.MD A (testsOf [t] cenv) Q E s := by
  show wpAny _ _ (forIn [t] true _) _ _ s
  rw [List.forIn_cons, if_pos rfl]
  refine wpAny_bind (wpAny_bind (wpAny_mono h (fun ok s₁ h₁ => ?_) fun _ _ z => z))
  refine wpAny_pure ?_
  show wpAny _ _ (forIn [] ok _) _ _ s₁
  rw [List.forIn_nil]
  exact wpAny_pure h₁

/-- a comprehension over a list of the ledger -/
theorem rCompL {target iter elt : PySem.Expr} {ifs : List PySem.Expr} {scope sc' : Scope} {cl : List (Str × Addr)} {pos : Pos} {Q : Value → Shared → Prop} (items : Array Value) (Acc : Nat → Array Value → Prop)
    (hA : A.handled = none) (N : EnvIs env L sc cd) (hclos : closureFor scope env = pure cl) (hrel : relabel scope env = sc') (hcell : ∀ y ∈ scope.names, y.2 ≠ .cell) (hkind : scope.kind = .function)
    (hnames : ∀ y ∈ scope.names, y.2 = .local → scope.names.lookup y.1 = some .local) (hs : ∀ x, foldedSetIterable iter env x = pure x) (hsz : ∀ i ys, Acc i ys → ys.size < 100000) (h0 : Acc 0 #[])
    (hgo : (∃ x p, target = .Name x p) ∨ ((∃ elts k p, target = .Tuple elts k p) ∧ ∀ (i : Nat) (v : Value), items[i]? = some v → ∃ T, v = .ref T))
    (h : wpAny c.MD A (eval iter env) (fun x s₁ => ∃ La e fs ld, x = .ref La ∧ (La, listO items e) ∈ ld ∧ St c fs ld s₁ ∧
      (∀ C acc I cenv, EnvIs cenv C sc' cd → cenv.cells = cl → ∀ i v m ys oI e s, items[i]? = some v → Acc i ys → St c ((C, m) :: fs) ((I, oI) :: (acc, listO ys e) :: ld) s →
        wpAny c.MD A (assign target cenv v) (fun _ s₂ => wpAny c.MD A (testsOf ifs cenv) (fun ok s₃ =>
          if ok = true then wpAny c.MD A (eval elt cenv) (fun y s₄ => ∃ m', St c ((C, m') :: fs) ((I, oI) :: (acc, listO ys e) :: ld) s₄ ∧ Acc (i + 1) (ys.push y)) NoE s₃
          else ∃ m', St c ((C, m') :: fs) ((I, oI) :: (acc, listO ys e) :: ld) s₃ ∧ Acc (i + 1) ys) NoE s₂) NoE s) ∧
      (∀ acc ys e s, Acc items.size ys → St c fs ((acc, listO ys e) :: ld) s → Q (.ref acc) s)) NoE s) :
    wpAny c.MD A (eval (.ListComp elt [⟨target, iter, ifs, 0⟩] scope pos) env) Q NoE s := by
  refine rCompW (n := items.size) (T := 0) (P0 := fun i v => items[i]? = some v) (P := fun i v _ => items[i]? = some v) hA N hclos hrel hcell hkind hnames Acc hsz h0 hs (wpAny_mono h (fun x s₁ h₁ => ?_) fun _ _ z => z)
  obtain ⟨La, e, fs, ld, rfl, hl, I, step, exit⟩ := h₁
  refine wpAny_pyIter_list ⟨_, I.ob _ hl, rfl, _, rfl⟩ ?_
  have I1 := I.new (tk := s₁.toks) (o := { cls := .type "list_iterator", data := .fields #[.ref La, .int 0 0] }) rfl (Heap.get?_push_size _ rfl) fun b o e => Heap.get?_push_of_some _ e
  have hne : La ≠ s₁.heap.objs.size := Nat.ne_of_lt (I.lt (List.mem_append.mpr (.inr (List.mem_map.mpr ⟨_, hl, rfl⟩))))
  refine ⟨s₁.heap.objs.size, _, [s₁.heap.objs.size, La], fs, ld, _, rfl, I1, fun A' hA' => Walks.list hA' s₁.heap.objs.size La hne items, Nat.zero_le _, fun i fs' ld' oI s Q E hi _ S hs hQ => nextW (Walks.list hA s₁.heap.objs.size La hne items) (fun i h x => let ⟨o, ho, _⟩ := x.1; ⟨o, ho⟩) S hs hi fun v oI' s' hv S' hs' => hQ v oI' s' hv S' hs', fun i h q x => listIter_no x.1 q, ?_, ?_, ?_, ?_, exit⟩
  · intro b hb
    rcases List.mem_cons.mp hb with rfl | hb
    · exact .inl rfl
    · rcases List.mem_cons.mp hb with rfl | hb
      · exact .inr ⟨_, hl⟩
      · cases hb
  · exact ⟨⟨_, Heap.get?_push_size _ rfl, rfl, rfl⟩, ⟨_, I1.ob _ (.tail _ hl), rfl, _, rfl⟩⟩
  · intro i v s Q E hv hs hQ
    rcases hgo with ⟨x, p, rfl⟩ | ⟨⟨elts, k, p, rfl⟩, hr⟩
    · exact wpAny_pure hQ
    · obtain ⟨T, rfl⟩ := hr i v hv
      exact wpAny_letOwnedTupleGo_listiter hs.1 hQ
  · intro C acc cenv N' hc' i v m ys oI e s hlt hv hacc S
    exact step C acc _ cenv N' hc' i v m ys oI e s hv hacc S

/-- max of a list of ints of the ledger -/
theorem rMax {D : Addr} {ys : Array Value} {e : Nat} {ns : List Int} {Q : Value → Shared → Prop} (hh : A.handled = none) (I : St c fs ld s) (hl : (D, listO ys e) ∈ ld) (hi : IntsAre ys.toList ns) (hne : 0 < ns.length)
    (h : ∀ M t s', St c fs ld s' → M ∈ ns → (∀ a ∈ ns, a ≤ M) → Q (.int M t) s') : wpAny c.MD A (call (.builtin "max") [.ref D]) Q NoE s := by
  obtain ⟨xs, e'⟩ := hi.allInts.items
  have hns : ns = xs.toList.map (·.1) := by
    rw [← hi.numsOf, ← nums_intItems, ← e']
  have hsz : 0 < xs.size := by
    have h3 := hne; rw [hns, List.length_map, Array.length_toList] at h3; exact h3
  have hL : s.heap.IsList D (intItems xs) := ⟨_, I.ob _ hl, rfl, e, by rw [← e', Array.toArray_toList]⟩
  refine max_intList hh hL hsz fun v h' tk hv hk => ?_
  obtain ⟨t, rfl⟩ := intItems_at hv
  obtain ⟨h1, h2⟩ := argBest_gt (numAt xs) (xs.size - 1)
  refine h _ t _ (I.same hk) ?_ fun a ha => ?_
  · rw [hns, numAt_eq]; exact getD_mem (by rw [List.length_map, Array.length_toList]; omega)
  · rw [hns] at ha
    obtain ⟨j, hj, rfl⟩ := mem_getD ha
    rw [List.length_map, Array.length_toList] at hj
    rw [← numAt_eq]; exact h2 j (by omega)

theorem rSum {D : Addr} {ys : Array Value} {e : Nat} {ns : List Int} {Q : Value → Shared → Prop} (hh : A.handled = none) (I : St c fs ld s) (hl : (D, listO ys e) ∈ ld) (hi : IntsAre ys.toList ns)
    (h : ∀ t s', St c fs ld s' → Q (.int ns.sum t) s') : wpAny c.MD A (call (.builtin "sum") [.ref D]) Q NoE s := by
  obtain ⟨xs, e'⟩ := hi.allInts.items
  have hns : ns = xs.toList.map (·.1) := by
    rw [← hi.numsOf, ← nums_intItems, ← e']
  have hL : s.heap.IsList D (intItems xs) := ⟨_, I.ob _ hl, rfl, e, by rw [← e', Array.toArray_toList]⟩
  refine sum_intListG hh hL fun h' tk t' hk => ?_
  have e2 : preSum (numAt xs) xs.size = ns.sum := by
    rw [preSum_eq, List.take_of_length_le (by simp), hns]
  rw [e2]
  exact h _ _ (I.same hk)

/-- the list's items from the front are these ints -/
def Gains (l : List Int) (i : Nat) (ys : Array Value) : Prop := IntsAre ys.toList (l.take i) ∧ ys.size < 100000
theorem Gains.push {l : List Int} {i : Nat} {ys : Array Value} {v : Int} {t : Tok} (G : Gains l i ys) (hl : l.length < 99999) (h : l[i]? = some v) : Gains l (i + 1) (ys.push (.int v t)) := by
  refine ⟨?_, ?_⟩
  · rw [Array.toList_push, List.take_add_one, h]
    exact G.1.append (.cons v t .nil)
  · have h1 := G.1.length
    rw [List.length_take, Array.length_toList] at h1
    rw [Array.size_push]; omega

variable {P : Addr} {es : Array DictEntry} {ep : Nat} {pr : Nat → Nat → Int}
variable {Hd Dd : Addr} {dd : Obj} {Ll : Addr} {dit : Array Value} {de : Nat} {g : List (Str × Str)} {Td : Nat → Addr} {vd : Nat → Array Value}
variable {mu : Nat → Nat} {th : List Nat} {n : Nat} {Q : Value → Shared → Prop}

abbrev gainsOf (l : List (Int × List (Nat × Nat))) : List Int := l.map (·.1)

theorem adds_ct (ok : c.Ok) (I : St c fs ld s) (hA : AOk (n + 15) A) (D : Deals ld Hd Dd dd Ll dit de g Td vd) (hM : Mu g mu) (hP : Price c ld P es ep pr) {x : Nat} (hx : x ∈ ltrs) (hth : ∀ q ∈ th, q ∈ ltrs) (hth6 : th.length ≤ 5) {t1 t2 : Tok}
    (h : ∀ M t s', St c fs ld s' → M ∈ gainsOf (chainsS mu pr (th ++ [x]) 6 [] x 0) → (∀ a ∈ gainsOf (chainsS mu pr (th ++ [x]) 6 [] x 0), a ≤ M) → Q (.int M t) s') :
    wpAny c.MD A (call (.ref 313) [.ref P, .ref Hd, .str ⟨th.toArray⟩ t1, .str (L1 x) t2] []) Q NoE s := by
  refine callF (args := ⟨_, _⟩) I hA (kg ok rfl rfl) ⟨_, _, _, _, rfl, kg ok rfl rfl, rfl, rfl⟩ rfl (BindsTo.of_eq rfl) (by decide) (locs rfl) rfl rfl rfl rfl rfl ?_
  intro L s' env N hcells I' hA'
  clear hcells
  repeat (walk_at "st")
  refine rCallRef (kg ok rfl rfl) ?_
  repeat (walk_at "st")
  refine PyProof.Rows.add_str ?_ (by have h : (⟨th.toArray⟩ : Str).length = th.length := by show th.toArray.size = _; simp
                                     rw [h]; show th.length + 1 ≤ sizeLine; exact Nat.le_trans (by omega : th.length + 1 ≤ 6) (by decide))
  intro t3 k3
  replace I' := I'.tok (tk := k3)
  repeat (walk_at "st")
  refine callWith_K0 (St.kx (by assumption)) (by kernel_rfl) ?_
  refine make_ct (n := n) ok (by assumption) (hA'.mono (by omega)) ?_
  intro Lp Dp od e s1 hpd I1
  repeat (walk_at "st")
  refine ⟨⟨_, _, by assumption⟩, ?_⟩
  rename_i t4 s2 I2
  rw [show (⟨th.toArray⟩ : Str) ++ L1 x = ⟨(th ++ [x]).toArray⟩ from by show (⟨th.toArray ++ #[x]⟩ : Str) = _; simp]
  have hsub : ∀ p ∈ ld, p ∈ (Dp, od) :: ld := fun p hp => .tail _ hp
  have hthx : ∀ q ∈ th ++ [x], q ∈ ltrs := by
    intro q hq
    rcases List.mem_append.mp hq with h | h
    · exact hth q h
    · rw [List.mem_singleton.mp h]; exact hx
  have hlen : (th ++ [x]).length ≤ 6 := by rw [List.length_append]; simp only [List.length_cons, List.length_nil]; omega
  refine chains_ct ok hthx hlen 6 _ _ _ _ _ _ _ _ _ _ (fun _ => 0) (fun _ => #[]) _ _ _ _ _ _ _ _ _ _ _ _ pr mu [] x 0 _ _ _ I2 (hA'.mono (by omega)) (.head _) hpd ⟨rfl, fun j hj => absurd hj (by simp), fun j hj => absurd hj (by simp), fun j p hj => by cases hj⟩ (D.mono hsub) hM (hP.mono hsub) hx (by decide) (by decide) (Nat.le_trans (List.length_filter_le _ _) hlen) ?_
  intro s3 e3 Fa fit ef new I3 hF
  clear I1 I2 I'
  replace I3 : St c _ ((Fa, listO fit ef) :: (new ++ ld)) s3 := I3.subl (List.Sublist.cons _ (List.Sublist.cons_cons _ (List.Sublist.append (List.Sublist.refl _) (List.Sublist.cons _ (List.Sublist.refl _)))))
  have hlen2 : (gainsOf (chainsS mu pr (th ++ [x]) 6 [] x 0)).length ≤ 55987 := by
    rw [List.length_map]; exact Nat.le_trans (chains_len mu pr hlen 6 [] x 0) (by decide)
  repeat (walk_at "st")
  refine rCallM (by intro a; exact nofun) ?_
  repeat (walk_at "st")
  refine rCompL fit (Gains (gainsOf (chainsS mu pr (th ++ [x]) 6 [] x 0))) hA'.hh (by assumption) (closureFor_none (by decide)) rfl (by decide) rfl (by decide) (fun _ => rfl) (fun _ _ h => h.2) ⟨.nil, by simp⟩ (.inr ⟨⟨_, _, _, rfl⟩, ?_⟩) ?_
  · intro i v hv
    obtain ⟨hi, rfl⟩ := Array.getElem?_eq_some_iff.mp hv
    obtain ⟨T, t, u, a, b⟩ := hF.item i _ (List.getElem?_eq_getElem (by rw [← hF.size]; exact hi))
    rw [hv] at a
    exact ⟨T, Option.some.inj a⟩
  repeat (walk_at "st")
  refine ⟨Fa, ef, _, _, rfl, .head _, by assumption, ?_, ?_⟩
  · intro C acc Ia cenv N' hc' i v m ys oI e5 s5 hv hG S
    clear hc'
    obtain ⟨hi, rfl⟩ := Array.getElem?_eq_some_iff.mp hv
    obtain ⟨T, t, u, a, b⟩ := hF.item i _ (List.getElem?_eq_getElem (by rw [← hF.size]; exact hi))
    rw [hv] at a
    rw [Option.some.inj a]
    refine rAssign2 hA'.hh S N' rfl rfl rfl (.tail _ (.tail _ (.tail _ (List.mem_append.mpr (.inl b))))) ?_
    intro s6 I6
    refine rTests0 ?_
    rw [if_pos rfl]
    repeat (walk_at "st")
    refine ⟨_, by assumption, hG.push (by omega) ?_⟩
    rw [List.getElem?_map, List.getElem?_eq_getElem (by rw [← hF.size]; exact hi)]
    rfl
  · intro acc ys e5 s5 hG I5
    repeat (walk_at "st")
    have hG1 := hG.1
    rw [hF.size, ← List.length_map (f := (·.1)), List.take_length] at hG1
    refine rMax hA'.hh I5 (.head _) hG1 (by rw [List.length_map, chainsS_eq]; simp) ?_
    intro M t s6 I6 h1 h2
    repeat (walk_at "st")
    refine h M t _ ((St.dropFr (by assumption)).subl ?_) h1 h2
    exact List.Sublist.cons _ (List.Sublist.cons _ (List.sublist_append_right _ _))
end

/-! part F21 -/
section
variable {c : Cx} {fs fs' : Fs} {ld ld' : Ld} {s : Shared} {A : Around} {env : Env} {L : Addr} {m : Str → Option Value} {sc : Scope} {cd : Value}

theorem rToks {α : Type} {t : Sem α} {n : Nat} {Q : α → Shared → Prop} (hn : n ≤ s.toks) (h : wpAny c.MD A t (fun a s' => n ≤ s'.toks → Q a s') (fun _ _ => False) s) : wpAny c.MD A t Q (fun _ _ => False) s :=
  wpAny_with_toks hn (wpAny_mono h (fun _ _ z => z) fun _ _ z => z.elim)

/-- a comprehension over a str's letters -/
theorem rCompStr {v : Str} {vp : Pos} {iter elt : PySem.Expr} {ifs : List PySem.Expr} {scope sc' : Scope} {cl : List (Str × Addr)} {pos : Pos} {Q : Value → Shared → Prop} (x : Str) (Acc : Nat → Array Value → Prop) (hasc : x.cps.all (· < 128) = true)
    (hA : A.handled = none) (N : EnvIs env L sc cd) (hclos : closureFor scope env = pure cl) (hrel : relabel scope env = sc') (hcell : ∀ y ∈ scope.names, y.2 ≠ .cell) (hkind : scope.kind = .function)
    (hnames : ∀ y ∈ scope.names, y.2 = .local → scope.names.lookup y.1 = some .local) (hs : ∀ x, foldedSetIterable iter env x = pure x) (hsz : ∀ i ys, Acc i ys → ys.size < 100000) (h0 : Acc 0 #[])
    (h : wpAny c.MD A (eval iter env) (fun y s₁ => ∃ t fs ld, y = .str x t ∧ 1 ≤ s₁.toks ∧ St c fs ld s₁ ∧
      (∀ C acc I cenv, EnvIs cenv C sc' cd → cenv.cells = cl → ∀ i n u m ys oI e s, x.cps[i]? = some n → 0 < u → u + 1 ≤ s.toks → Acc i ys → St c ((C, m) :: fs) ((I, oI) :: (acc, listO ys e) :: ld) s →
        wpAny c.MD A (assign (.Name v vp) cenv (.str ⟨#[n]⟩ u)) (fun _ s₂ => wpAny c.MD A (testsOf ifs cenv) (fun ok s₃ =>
          if ok = true then wpAny c.MD A (eval elt cenv) (fun y s₄ => ∃ m', St c ((C, m') :: fs) ((I, oI) :: (acc, listO ys e) :: ld) s₄ ∧ Acc (i + 1) (ys.push y)) NoE s₃
          else ∃ m', St c ((C, m') :: fs) ((I, oI) :: (acc, listO ys e) :: ld) s₃ ∧ Acc (i + 1) ys) NoE s₂) NoE s) ∧
      (∀ acc ys e s, Acc x.cps.size ys → St c fs ((acc, listO ys e) :: ld) s → Q (.ref acc) s)) NoE s) :
    wpAny c.MD A (eval (.ListComp elt [⟨.Name v vp, iter, ifs, 0⟩] scope pos) env) Q NoE s := by
  refine rCompW (n := x.cps.size) (T := 1) (P0 := SignAt x) (P := fun i v s => ∃ n u, x.cps[i]? = some n ∧ v = .str ⟨#[n]⟩ u ∧ 0 < u ∧ u + 1 ≤ s.toks) hA N hclos hrel hcell hkind hnames Acc hsz h0 hs (wpAny_mono h (fun y s₁ h₁ => ?_) fun _ _ z => z)
  obtain ⟨t, fs, ld, rfl, hT, I, step, exit⟩ := h₁
  refine wpAny_pyIter_ascii hasc ?_
  have I1 := I.new (tk := s₁.toks) (o := { cls := .type "str_ascii_iterator", data := .fields #[.str x t, .int 0 0] }) rfl (Heap.get?_push_size _ rfl) fun b o e => Heap.get?_push_of_some _ e
  refine ⟨s₁.heap.objs.size, _, [s₁.heap.objs.size], fs, ld, fun i h => h.IsStrIter s₁.heap.objs.size "str_ascii_iterator" x t i, rfl, I1, fun A' hA' => Walks.strAscii hA' s₁.heap.objs.size x t, hT, ?_, fun i h q y => strIter_no y q, fun b hb => .inl (by simpa using hb), ⟨_, Heap.get?_push_size _ rfl, rfl, rfl⟩, ?_, ?_, exit⟩
  · intro i fs' ld' oI s Q E hi hT S hs hQ
    refine wpAny_pyNext_ascii_item hs (c := x.cps[i]) (by simp [hi]) fun h' hit' hs' => ?_
    obtain ⟨o', ho', _⟩ := id hit'
    exact hQ _ o' _ ⟨x.cps[i], s.toks, by simp [hi], rfl, hT, Nat.le_refl _⟩ (S.setOb (tk := s.toks + 1) ho' fun b x hb e => hs'.extBut b x hb e) hit'
  · intro i v s Q E hv hs hQ
    exact wpAny_pure hQ
  · rintro C acc cenv N' hc' i v m ys oI e s hlt ⟨n, u, hn, rfl, hu, hu2⟩ hacc S
    exact step C acc _ cenv N' hc' i n u m ys oI e s hn hu hu2 hacc S

def maxL : List Int → Int
  | [] => 0
  | [a] => a
  | a :: b :: l => max a (maxL (b :: l))
theorem maxL_spec : ∀ {l : List Int}, l ≠ [] → maxL l ∈ l ∧ ∀ a ∈ l, a ≤ maxL l
  | [], h => absurd rfl h
  | [a], _ => ⟨.head _, fun b hb => by rw [List.mem_singleton.mp hb]; exact Int.le_refl _⟩
  | a :: b :: l, _ => by
    obtain ⟨h1, h2⟩ := maxL_spec (l := b :: l) (by simp)
    show max a (maxL (b :: l)) ∈ _ ∧ ∀ x ∈ _, x ≤ max a (maxL (b :: l))
    refine ⟨?_, fun x hx => ?_⟩
    · rcases Int.le_total a (maxL (b :: l)) with h | h
      · rw [Int.max_eq_right h]; exact .tail _ h1
      · rw [Int.max_eq_left h]; exact .head _
    · rcases List.mem_cons.mp hx with rfl | hx
      · exact Int.le_max_left _ _
      · exact Int.le_trans (h2 x hx) (Int.le_max_right _ _)
theorem maxL_eq {l : List Int} {M : Int} (h1 : M ∈ l) (h2 : ∀ a ∈ l, a ≤ M) : M = maxL l := by
  have hne : l ≠ [] := fun h => by rw [h] at h1; cases h1
  obtain ⟨h3, h4⟩ := maxL_spec hne
  exact Int.le_antisymm (h4 M h1) (h2 _ h3)

/-- the market's most: each of the few takes one of the many -/
def mostV (pr : Nat → Nat → Int) : List Nat → List Nat → Int
  | [], _ => 0
  | f :: r, many => maxL (many.map fun x => pr f x + mostV pr r (many.filter (· != x)))

theorem strT (l : List Nat) : (⟨l.toArray⟩ : Str).cps.toList = l := by show l.toArray.toList = l; simp
theorem str_of {x : Str} {l : List Nat} (h : x.cps.toList = l) : x = ⟨l.toArray⟩ := by
  obtain ⟨⟨a⟩⟩ := x
  have h : a = l := h
  rw [h]
theorem replaced (l : List Nat) (x : Nat) : Txt.replace ⟨l.toArray⟩ (L1 x) (Str.ofString "") = ⟨(l.filter (· != x)).toArray⟩ := by
  refine str_of ?_
  rw [show Str.ofString "" = ⟨#[]⟩ from by kernel_rfl, replace_strikes, strT]
theorem asc_of {l : List Nat} (h : ∀ q ∈ l, q ∈ ltrs) : (⟨l.toArray⟩ : Str).cps.all (· < 128) = true := by
  have h128 : ∀ q ∈ ltrs, q < 128 := by decide
  show l.toArray.all (fun q => decide (q < 128)) = true
  rw [List.all_toArray, List.all_eq_true]
  intro q hq
  exact decide_eq_true (h128 q (h q hq))
theorem lenT (l : List Nat) : (⟨l.toArray⟩ : Str).length = l.length := by show l.toArray.size = _; simp
theorem item0 (f : Nat) (r : List Nat) : Txt.item ⟨(f :: r).toArray⟩ 0 = L1 f := by
  have := item_zero_left f r ⟨#[]⟩
  rwa [show (⟨(f :: r).toArray⟩ : Str) ++ ⟨#[]⟩ = ⟨(f :: r).toArray⟩ from by show (⟨(f :: r).toArray ++ #[]⟩ : Str) = _; simp] at this
theorem slice1 (f : Nat) (r : List Nat) : Txt.slice ⟨(f :: r).toArray⟩ (some 1) none = ⟨r.toArray⟩ := by
  rw [slice_from_eq (b := ((f :: r).length : Int)) (by omega) (by rw [lenT]; simp only [List.length_cons]; omega) (by rw [lenT]), strT]
  simp only [List.length_cons]
  rw [show (((r.length + 1 : Nat) : Int) - 1).toNat = r.length from by omega, show (1 : Int).toNat = 1 from rfl, List.drop_one, List.tail_cons, List.take_length]

theorem kept_St : KeptByPush (St c fs ld) := fun s ob k I => I.same fun b o e => Heap.get?_push_of_some _ e

variable {P : Addr} {es : Array DictEntry} {ep : Nat} {pr : Nat → Nat → Int}
def mostSc : Scope := { kind := .function, names := [(".0", .local), ("x", .local), ("_law_most", .globalImplicit), ("few", .cell), ("many", .cell), ("price", .cell)], isGenerator := false, isCoroutine := false, more := [] }

/-- the contract of `_law_most` -/
def MostCt (c : Cx) (P : Addr) (es : Array DictEntry) (ep : Nat) (pr : Nat → Nat → Int) (few : List Nat) : Prop := ∀ (fs : Fs) (ld : Ld) (s : Shared) (A : Around) (many : List Nat) (t1 t2 : Tok) (n : Nat) (Q : Value → Shared → Prop), St c fs ld s → AOk (n + few.length + 1) A → Price c ld P es ep pr →
    (∀ q ∈ few, q ∈ ltrs) → (∀ q ∈ many, q ∈ ltrs) → (∀ f ∈ few, ∀ x ∈ many, isK x = isA f) → many.Nodup → few.length ≤ many.length → many.length ≤ 10 → few.length ≤ 10 →
    (∀ t s', St c fs ld s' → Q (.int (mostV pr few many) t) s') → wpAny c.MD A (call (.ref 301) [.ref P, .str ⟨few.toArray⟩ t1, .str ⟨many.toArray⟩ t2] []) Q NoE s

theorem most_step (ok : c.Ok) {few : List Nat} (IH : ∀ f r, few = f :: r → MostCt c P es ep pr r) : MostCt c P es ep pr few := by
  intro fs ld s A many t1 t2 n Q I hA hP hf hm hfm hnd hl1 hl2 hl3 h
  refine callC (args := ⟨_, _⟩) I hA (kg ok rfl rfl) ⟨_, _, _, _, rfl, kg ok rfl rfl, rfl, rfl⟩ rfl (BindsTo.of_eq rfl) rfl (kinds fun _ => rfl) ?_ rfl rfl rfl rfl rfl ?_
  · intro L p hp
    have hp' : p ∈ [(("many" : Str), L + 1 + 1 + 1), ("few", L + 1 + 1), ("price", L + 1)] := hp
    simp only [List.mem_cons, List.not_mem_nil, or_false] at hp'
    rcases hp' with rfl | rfl | rfl <;> rfl
  intro L s' env ldc htk N hcells hldc hcell I' hA'
  replace hcells : env.cells = [(("many" : Str), L + 1 + 1 + 1), ("few", L + 1 + 1), ("price", L + 1)] := hcells
  obtain ⟨oP, mP, dP⟩ := hcell "price" (L + 1) rfl
  obtain ⟨oF, mF, dF⟩ := hcell "few" (L + 1 + 1) rfl
  obtain ⟨oM, mM, dM⟩ := hcell "many" (L + 1 + 1 + 1) rfl
  replace dP : oP.data = .cell (some (.ref P)) := dP
  replace dF : oF.data = .cell (some (.str ⟨few.toArray⟩ t1)) := dF
  replace dM : oM.data = .cell (some (.str ⟨many.toArray⟩ t2)) := dM
  clear hcell hldc
  replace ⟨m0, I'⟩ : ∃ m0, St c ((L, m0) :: fs) (ldc ++ ld) s' := ⟨_, I'⟩
  have hsub : ∀ p ∈ ld, p ∈ ldc ++ ld := fun p hp => List.mem_append.mpr (.inr hp)
  replace mP : (L + 1, oP) ∈ ldc ++ ld := List.mem_append.mpr (.inl mP)
  replace mF : (L + 1 + 1, oF) ∈ ldc ++ ld := List.mem_append.mpr (.inl mF)
  replace mM : (L + 1 + 1 + 1, oM) ∈ ldc ++ ld := List.mem_append.mpr (.inl mM)
  refine wpAny_execs_cons ?_
  repeat (walk_at "st")
  refine rCell I' N hcells mF dF ?_
  refine wpAny_Constant_str ?_
  replace I' := I'.tok (tk := s'.toks + 1)
  refine eq_str ?_
  refine wpAny_truthy_bool ?_
  cases few with
  | nil =>
    rw [if_pos (by kernel_rfl)]
    repeat (walk_at "st")
    exact h _ _ ((St.dropFr (by assumption)).subl (List.sublist_append_right _ _))
  | cons f r =>
    have hne : ((⟨(f :: r).toArray⟩ : Str) == Str.ofString "") = false := by
      rw [str_beq, strT, show (Str.ofString "").cps.toList = [] from by kernel_rfl]; rfl
    rw [hne, if_neg (by decide)]
    repeat (walk_at "st")
    refine rCallM (by intro a; exact nofun) ?_
    repeat (walk_at "st")
    have hmk : (many.map fun x => pr f x + mostV pr r (many.filter (· != x))).length ≤ 10 := by rw [List.length_map]; exact hl2
    refine rCompStr ⟨many.toArray⟩ (Gains (many.map fun x => pr f x + mostV pr r (many.filter (· != x)))) (cl := [("price", L + 1), ("many", L + 1 + 1 + 1), ("few", L + 1 + 1)]) (sc' := mostSc) (asc_of hm) hA'.hh N ?_ ?_ (by decide) rfl (by decide) (fun _ => rfl) (fun _ _ h => h.2) ⟨.nil, by simp⟩ ?_
    · unfold closureFor cellOf
      rw [hcells]; rfl
    · unfold relabel Env.kindOf
      rw [N.sc]; rfl
    refine rCell (by assumption) N hcells mM dM ?_
    refine ⟨_, _, _, rfl, Nat.succ_le_succ (Nat.zero_le _), by assumption, ?_, ?_⟩
    · intro C acc Ia cenv N' hc' i x u m ys oI e5 s5 hx hu hu2 hG S
      refine rToks (n := u + 1) hu2 (wpAny_assign_Name (rStore S N' rfl rfl fun s6 I6 hu3 => ?_))
      refine rTests0 ?_
      rw [if_pos rfl]
      have hxm : x ∈ many := by
        have : many[i]? = some x := by simpa using hx
        exact List.mem_of_getElem? this
      have hsd : (isA f = true ∧ isK x = true) ∨ (isK f = true ∧ isA x = true) := sides (hf f (.head _)) (hm x hxm) (hfm f (.head _) x hxm)
      have two : ∀ {q : Addr × Obj}, q ∈ ldc ++ ld → q ∈ (Ia, oI) :: (acc, listO ys e5) :: (ldc ++ ld) := fun h => .tail _ (.tail _ h)
      clear S
      refine wpAny_BinOp ?_
      refine rToks (n := u + 1) hu3 ?_
      refine Subscript_ ?_
      refine rCell I6 N' hc' (two mP) dP ?_
      refine wpAny_BinOp ?_
      refine Subscript_ ?_
      refine rCell I6 N' hc' (two mF) dF ?_
      repeat (walk_at "st")
      rename_i t7 s7 I7
      refine item_str (by rfl) (by rw [lenT]; omega) (by rw [lenT]; simp only [List.length_cons]; omega) ?_
      intro _
      rw [item0]
      replace I7 := I7.tok (tk := s7.toks + 1)
      repeat (walk_at "st")
      refine PyProof.Rows.add_str ?_ (Nat.le_of_ble_eq_true rfl)
      intro t8 k8
      refine rPrice (x := f) (q := x) (I7.tok (tk := k8)) (hP.mono (fun q hq => two (hsub q hq))) hsd ?_
      intro t9 s9 I9 hu9
      repeat (walk_at "st")
      refine rCallRef (kg ok rfl rfl) ?_
      repeat (walk_at "st")
      refine rCell I9 N' hc' (two mP) dP ?_
      repeat (walk_at "st")
      refine rToks (n := u + 1) hu9 ?_
      refine Subscript_ ?_
      refine rCell I9 N' hc' (two mF) dF ?_
      refine wpAny_Slice ?_
      rw [evalPart_some, evalPart_none]
      repeat (walk_at "st")
      rename_i t10 s10 I10
      refine wpAny_pure (wpAny_pure ?_)
      refine tail_of_ItemOn (SBG.sliceItem_sn kept_St I10 (fun s11 t11 I11 => ?_) (by rw [lenT]; exact Nat.le_trans hl3 (by decide))) (by with_unfolding_all rfl) (by intro _; with_unfolding_all rfl)
      intro hu11
      rw [slice1]
      repeat (walk_at "st")
      refine MethodCall_ ?_
      refine rCell I11 N' hc' (two mM) dM ?_
      refine GM.replace ?_
      refine callWith_method1 ?_
      iterate 3 (walk_at "st")
      refine wpAny_Constant_str ?_
      replace I11 := I11.tok (tk := s11.toks + 1)
      repeat (walk_at "st")
      refine rToks (n := 1) (Nat.succ_le_succ (Nat.zero_le _)) ?_
      refine SC.replace (Nat.ne_of_gt hu) (Nat.ne_of_gt (Nat.lt_of_lt_of_le (Nat.succ_pos u) hu11)) (Nat.ne_of_lt hu11) (by kernel_rfl) ?_ ?_
      · have h0 : (Str.ofString "").length = 0 := by kernel_rfl
        rw [h0, lenT]; omega
      intro t13 k13 hu13
      have I13 := I11.tok (tk := k13)
      repeat (walk_at "st")
      refine ⟨⟨_, _, I13⟩, ?_⟩
      rw [replaced]
      have hmf : ∀ q ∈ many.filter (· != x), q ∈ many := fun q hq => (List.mem_filter.mp hq).1
      have hfl : (many.filter (· != x)).length + 1 = many.length := by
        rw [← List.Nodup.erase_eq_filter hnd, List.length_erase_of_mem hxm]
        have := List.length_pos_of_mem hxm
        omega
      refine IH f r rfl _ _ _ _ _ _ _ n _ I13 (hA'.mono (by simp only [List.length_cons]; omega)) (hP.mono (fun q hq => two (hsub q hq))) (fun q hq => hf q (.tail _ hq)) (fun q hq => hm q (hmf q hq))
        (fun f' hf' x' hx' => hfm f' (.tail _ hf') x' (hmf x' hx')) (hnd.filter _) (by simp only [List.length_cons] at hl1; omega) (by omega) (by simp only [List.length_cons] at hl3; omega) ?_
      intro t14 s14 I14
      refine add_int ?_
      refine ⟨_, I14.tok (tk := s14.toks + 1), hG.push (by omega) ?_⟩
      rw [List.getElem?_map, show many[i]? = some x from by simpa using hx]
      rfl
    · intro acc ys e5 s5 hG I5
      repeat (walk_at "st")
      have hG1 := hG.1
      rw [show (⟨many.toArray⟩ : Str).cps.size = (many.map fun x => pr f x + mostV pr r (many.filter (· != x))).length from by rw [List.length_map]; exact lenT many, List.take_length] at hG1
      refine rMax hA'.hh I5 (.head _) hG1 (by rw [List.length_map]; exact Nat.lt_of_lt_of_le (Nat.succ_pos _) hl1) ?_
      intro M t s6 I6 h1 h2
      repeat (walk_at "st")
      rw [maxL_eq h1 h2]
      exact h _ _ ((St.dropFr (by assumption)).subl (List.Sublist.cons _ (List.sublist_append_right _ _)))

theorem most_ct (ok : c.Ok) : ∀ few, MostCt c P es ep pr few
  | [] => most_step ok fun f r h => by cases h
  | f :: r => most_step ok fun f' r' h => by cases h; exact most_ct ok r
end

/-! part F22 -/
section
variable {c : Cx} {fs fs' : Fs} {ld ld' : Ld} {s : Shared} {A : Around} {env : Env} {L : Addr} {m : Str → Option Value} {sc : Scope} {cd : Value}

theorem rangeIter_no {h : Heap} {I : Addr} {x y z : Int} (it : IsRangeIter h I x y z) (q : Str) : ¬ h.CodeRec (.ref I) q := by
  rintro ⟨c₂, o₂, vs₂, t₂, e₂, g₂, r₂, r₃⟩
  cases e₂
  rw [show h.get? I = _ from it] at g₂
  cases g₂
  cases r₂
  cases r₃

/-- a loop over a range -/
theorem rForRange {v : Str} {vp pos : Pos} {iter : PySem.Expr} {body : List Stmt} {a c' : Int} {n : Nat} {Q : Flow → Shared → Prop} (hA : A.handled = none) (inv : Nat → (Str → Option Value) → Ld → Prop)
    (hs : ∀ x, foldedSetIterable iter env x = pure x)
    (hiter : wpAny c.MD A (eval iter env) (fun y s₁ => ∃ r b t u w m ld, y = .ref r ∧ IsRange s₁.heap r a b c' t u w ∧ Builtin.Range.small a b c' = true ∧ Builtin.Range.rangeSize a b c' = n ∧ St c ((L, m) :: fs) ld s₁ ∧ inv 0 m ld) NoE s)
    (step : ∀ i t m ld Ia oI s, i < n → oI.cls = .type "range_iterator" → inv i m ld → St c ((L, m) :: fs) ((Ia, oI) :: ld) s → wpAny c.MD A (assign (.Name v vp) env (.int (a + i * c') t)) (fun _ s₂ => wpAny c.MD A (execs body env) (fun f s₃ => match f with
        | .next | .cont => ∃ m' ld', inv (i + 1) m' ld' ∧ St c ((L, m') :: fs) ((Ia, oI) :: ld') s₃
        | .brk => Q .next s₃
        | .ret v => Q (.ret v) s₃) NoE s₂) NoE s)
    (exit : ∀ m ld s, inv n m ld → St c ((L, m) :: fs) ld s → Q .next s) : wpAny c.MD A (exec (.For (.Name v vp) iter body [] pos) env) Q NoE s := by
  refine wpAny_For (wpAny_mono hiter (fun y s₁ h₁ => ?_) fun _ _ z => z) hs
  obtain ⟨r, b, t, u, w, m, ld, rfl, hr, hsm, hsz, I, hi⟩ := h₁
  refine wpAny_pyIter_range hr hsm ?_
  rw [hsz]
  have hk : ∀ (r : Result) s', (match r with | .ok f => Q f s' | .error _ => False) → (match r with | .ok f => Q f s' | .error e => cameBackBy c.MD A env NoE e s') := fun r s' z => by
    cases r with
    | ok f => exact z
    | error e => exact z.elim
  refine codeAny_mono ?_ hk
  have I1 := I.new (tk := s₁.toks) (o := { cls := .type "range_iterator", data := .fields #[rawInt a, rawInt n, rawInt c'] }) rfl (Heap.get?_push_size _ rfl) fun b o e => Heap.get?_push_of_some _ e
  refine loopW (cs := []) hA (fun A' hA' => Walks.range hA' s₁.heap.objs.size a c' n) (fun i h y => ⟨_, y⟩) (fun i h q y => rangeIter_no y q) (fun b hb => .inl (by simpa using hb)) inv (fun i m ld' _ p hp => nomatch hp) ?_ ?_ I1 ?_ hi
  · rintro i v' m ld' oI s hlt ⟨u, rfl⟩ hinv S hs
    have hcl : oI.cls = .type "range_iterator" := by
      have h1 := S.ob _ (.head _)
      dsimp only at h1
      rw [show s.heap.get? _ = _ from hs] at h1
      rw [← Option.some.inj h1]
    exact wpAny_pure (step i u m ld' _ oI s hlt hcl hinv S)
  · rintro m ld' s hinv S
    exact wpAny_execs_nil (exit m ld' s hinv S)
  · have : IsRangeIter (s₁.heap.push { cls := .type "range_iterator", data := .fields #[rawInt a, rawInt n, rawInt c'] }) s₁.heap.objs.size a n c' := Heap.get?_push_size _ rfl
    simpa using this

abbrev dictO (es : Array DictEntry) (ep : Nat) : Obj := { cls := .type "dict", data := .dict es ep }
abbrev SK (c : Cx) := strKind PySem.Challenge.rw_wk0037_01.row.prog c.w
/-- a dict's pairs -/
structure PTab (c : Cx) (es : Array DictEntry) (kvs : List (Str × Value)) : Prop where
  keys : KeysOf (SK c) es
  pairs : Pairs (SK c) es.toList kvs
  nd : (kvs.map (·.1)).Nodup

theorem exactO {o : Obj} {es : Array DictEntry} {ep : Nat} (h : o.ExactDict) (hd : o.data = .dict es ep) : o = dictO es ep := by
  obtain ⟨cl, d, dt, sl⟩ := o
  obtain ⟨h1, h2, h3⟩ := h
  cases h1; cases h2; cases h3; cases hd; rfl

theorem rSetItemS {P : Addr} {es : Array DictEntry} {ep : Nat} {kvs : List (Str × Value)} {k : Str} {t : Tok} {v : Value} {Q : Unit → Shared → Prop} (I : St c fs ((P, dictO es ep) :: ld) s) (H : PTab c es kvs) (hz : kvs.length ≤ 1000)
    (h : ∀ s' es' ep', PTab c es' (stored kvs k v) → St c fs ((P, dictO es' ep') :: ld) s' → Q () s') : wpAny c.MD A (setItem (.ref P) (.str k t) v) Q NoE s := by
  refine wpAny_setItem_pairs (knd := SK c) (k := k) (strKind_is _ _ _ _) ⟨_, es, ep, I.ob _ (.head _), ⟨rfl, rfl, rfl⟩, rfl, H.keys, H.pairs, H.nd⟩ (fun h' hm hs => ?_) (Nat.le_trans hz (by decide))
  obtain ⟨o, es', ep', ho, hex, hd, a, b, d⟩ := hm
  rw [exactO hex hd] at ho
  exact h _ es' ep' ⟨a, b, d⟩ (I.setOb ho fun b x hb e => hs.extBut b x hb e)

theorem valueAt_stored {kvs : List (Str × Value)} {k k' : Str} {v : Value} : valueAt (stored kvs k v) k' = if k' = k then some v else valueAt kvs k' := by
  unfold stored
  split
  · rename_i hany
    unfold valueAt
    induction kvs with
    | nil => simp at hany
    | cons x r ih =>
      rw [List.map_cons, List.find?_cons, List.find?_cons]
      by_cases hx : x.1 = k
      · rw [if_pos hx]
        by_cases hk : k' = k
        · subst hk
          rw [if_pos rfl]; simp [hx]
        · have hk2 : ¬ x.1 = k' := fun e => hk (e.symm.trans hx)
          rw [if_neg hk]
          have hd : decide (x.1 = k') = false := decide_eq_false hk2
          dsimp only
          rw [hd]
          by_cases hr : r.any (fun kv => decide (kv.1 = k)) = true
          · have := ih hr
            rw [if_neg hk] at this
            exact this
          · rw [map_store_of_not_mem r k v (fun hm => hr (by
              obtain ⟨p, hp, e⟩ := List.mem_map.mp hm
              exact List.any_eq_true.mpr ⟨p, hp, decide_eq_true e⟩))]
      · rw [if_neg hx]
        have hany' : r.any (fun kv => decide (kv.1 = k)) = true := by simpa [hx] using hany
        cases hd : decide (x.1 = k') with
        | true =>
          dsimp only
          have e := of_decide_eq_true hd
          rw [if_neg (fun h => hx (e.trans h))]
        | false =>
          dsimp only
          exact ih hany'
  · rename_i hany
    unfold valueAt
    rw [List.find?_append]
    have hnone : k' = k → kvs.find? (fun kv => decide (kv.1 = k')) = none := fun e => by
      subst e
      refine List.find?_eq_none.mpr fun p hp hh => hany (List.any_eq_true.mpr ⟨p, hp, hh⟩)
    by_cases hk : k' = k
    · rw [if_pos hk, hnone hk, Option.none_or, hk]; simp
    · rw [if_neg hk]
      have : ¬ k = k' := fun e => hk e.symm
      cases kvs.find? (fun kv => decide (kv.1 = k')) <;> simp [this]

/-- a list of ints of some size -/
def AllI (n : Nat) (items : Array Value) : Prop := items.size = n ∧ ∀ j, j < n → ∃ a t, items[j]? = some (.int a t)
theorem AllI.set {n j : Nat} {items : Array Value} {a : Int} {t : Tok} (H : AllI n items) : AllI n (items.setIfInBounds j (.int a t)) := by
  refine ⟨by rw [Array.size_setIfInBounds]; exact H.1, fun i hi => ?_⟩
  by_cases h : j = i
  · subst h
    exact ⟨a, t, by rw [Array.getElem?_setIfInBounds_self_of_lt (by rw [H.1]; exact hi)]⟩
  · rw [Array.getElem?_setIfInBounds_ne h]
    exact H.2 i hi

theorem size0 (n : Nat) (h : n ≤ 1000) : Builtin.Range.rangeSize 0 n 1 = n ∧ Builtin.Range.small 0 n 1 = true := by
  have e : Builtin.Range.rangeSize 0 n 1 = n := by
    unfold Builtin.Range.rangeSize
    rw [if_pos (by decide)]
    split
    · rw [Int.ediv_one]; omega
    · omega
  refine ⟨e, ?_⟩
  unfold Builtin.Range.small
  rw [e]
  have f : ∀ x : Int, 0 ≤ x → x ≤ 1000 → Builtin.Range.rangeFitsLong x = true := fun x h0 h1 => by
    unfold Builtin.Range.rangeFitsLong
    simp only [Bool.and_eq_true, decide_eq_true_eq, Bool.or_eq_true, Bool.not_eq_true', decide_eq_false_iff_not]
    omega
  rw [f 0 (by decide) (by decide), f n (by omega) (by omega), f 1 (by decide) (by decide), if_pos (by decide), f ((n : Int) + (1 - 1)) (by omega) (by omega)]
  simp

variable {Q : Value → Shared → Prop}
theorem rItemB {value slice : PySem.Expr} {La : Addr} {oL : Obj} {items : Array Value} {e : Nat} {k : Int} {t : Tok} {x : Value} {Q : Value → Shared → Prop} (ho : s.heap.get? La = some oL) (hc : oL.cls = .type "list") (hd : oL.data = .seq items e) (h0 : 0 ≤ k) (h1 : k < 1000) (hx : items[k.toNat]? = some x) (h : Q x s)
    (hs : subscripted slice false (.ref La) (.int k t) = operate [.ref La, .int k t] (getItem (.ref La) (.int k t)) := by with_unfolding_all rfl) (ht : ∀ r, letTemporaryGo value (.ref La) r = pure () := by intro _; with_unfolding_all rfl) :
    wpAny c.MD A (subscriptTail value slice (.ref La) (.int k t)) Q NoE s :=
  subscriptTail_builtin (T := "list") ⟨oL, ho, hc⟩ PySem.F.slot_list_getitem.lookup (wpAny_getItem_list ⟨oL, ho, hc, e, hd⟩ h0 (by omega) hx h) hs ht
theorem rItemL {value slice : PySem.Expr} {La : Addr} {oL : Obj} {items : Array Value} {e : Nat} {k : Int} {t : Tok} {x : Value} {Q : Value → Shared → Prop} (I : St c fs ld s) (hl : (La, oL) ∈ ld) (hc : oL.cls = .type "list") (hd : oL.data = .seq items e) (h0 : 0 ≤ k) (h1 : k < 1000) (hx : items[k.toNat]? = some x) (h : Q x s)
    (hs : subscripted slice false (.ref La) (.int k t) = operate [.ref La, .int k t] (getItem (.ref La) (.int k t)) := by with_unfolding_all rfl) (ht : ∀ r, letTemporaryGo value (.ref La) r = pure () := by intro _; with_unfolding_all rfl) :
    wpAny c.MD A (subscriptTail value slice (.ref La) (.int k t)) Q NoE s :=
  subscriptTail_builtin (T := "list") ⟨oL, I.ob _ hl, hc⟩ PySem.F.slot_list_getitem.lookup (wpAny_getItem_list ⟨oL, I.ob _ hl, hc, e, hd⟩ h0 (by omega) hx h) hs ht

def SV (items : Array Value) (j : Nat) : Int := match items[j]? with | some (.int a _) => a.fmod 6 | _ => 0
abbrev key1 (i : Nat) : Str := L2 (97 + i / 3) (107 + i % 3)
abbrev key2 (i : Nat) : Str := L2 (107 + i % 3) (97 + i / 3)
theorem L2_inj {a b c d : Nat} (h : L2 a b = L2 c d) : a = c ∧ b = d := by
  have := congrArg (fun s : Str => s.cps.toList) h
  simpa using this
theorem key_11 {i j : Nat} (h : key1 j = key1 i) : j = i := by have := L2_inj h; omega
theorem key_12 {i j : Nat} (hi : i < 12) (hj : j < 12) : key2 j ≠ key1 i := fun h => by have := L2_inj h; omega
theorem key_21 {i j : Nat} (hi : i < 12) (hj : j < 12) : key1 j ≠ key2 i := fun h => by have := L2_inj h; omega
theorem key_22 {i j : Nat} (h : key2 j = key2 i) : j = i := by have := L2_inj h; omega
theorem itA : ∀ j, j < 4 → Txt.item (Str.ofString "abcd") ((j : Nat) : Int) = L1 (97 + j) := by decide +kernel
theorem itK : ∀ j, j < 3 → Txt.item (Str.ofString "klm") ((j : Nat) : Int) = L1 (107 + j) := by decide +kernel
theorem fitN : ∀ j, j < 4 → fitsSsize ((j : Nat) : Int) = true := by decide +kernel
theorem lenA : (Str.ofString "abcd").length = 4 := by kernel_rfl
theorem lenK : (Str.ofString "klm").length = 3 := by kernel_rfl

def prS (items : Array Value) (x q : Nat) : Int := if (isA x && isK q) = true then SV items (3 * (x - 97) + (q - 107)) else if (isK x && isA q) = true then SV items (3 * (q - 97) + (x - 107)) else 0
theorem not_both (x : Nat) (h : isA x = true) : isK x = false := by
  have h := of_decide_eq_true h
  exact decide_eq_false (by omega)
theorem prS_sym {items : Array Value} (x q : Nat) : prS items x q = prS items q x := by
  unfold prS
  cases h1 : isA x <;> cases h2 : isK q <;> cases h3 : isK x <;> cases h4 : isA q <;> simp only [Bool.and_true, Bool.and_false, Bool.false_eq_true, if_true, if_false]
  all_goals first | (rw [not_both x h1] at h3; cases h3) | (rw [not_both q h4] at h2; cases h2)
theorem SV_nn (items : Array Value) (j : Nat) : 0 ≤ SV items j ∧ SV items j ≤ 5 := by
  unfold SV
  split
  · rw [Int.fmod_eq_emod_of_nonneg _ (by decide)]; omega
  · omega
theorem prS_nn {items : Array Value} (x q : Nat) : 0 ≤ prS items x q ∧ prS items x q ≤ 5 := by
  unfold prS
  split
  · exact SV_nn _ _
  · split
    · exact SV_nn _ _
    · omega

end

/-! part P22 -/
section
variable {c : Cx} {fs fs' : Fs} {ld ld' : Ld} {s : Shared} {A : Around} {env : Env} {L : Addr} {m : Str → Option Value} {sc : Scope} {cd : Value}

variable {Q : Value → Shared → Prop}
set_option maxHeartbeats 2000000 in
theorem prices_ct (ok : c.Ok) {Sa : Addr} {oS : Obj} {vs : Array Value} {eS n k : Nat} (I : St c fs ld s) (hA : AOk (n + 1) A) (hS : c.hb.get? Sa = some oS) (hSc : oS.cls = .type "list") (hSd : oS.data = .seq vs eS) (hSi : AllI k vs) (hk : k ≤ 100)
    (h : ∀ Pa es ep pr s', St c fs ((Pa, dictO es ep) :: ld) s' → Price c ((Pa, dictO es ep) :: ld) Pa es ep pr → (∀ x q, pr x q = pr q x) → (∀ x q, 0 ≤ pr x q ∧ pr x q ≤ 5) → Q (.ref Pa) s') :
    wpAny c.MD A (call (.ref 296) [.ref Sa] []) Q NoE s := by
  refine callF (args := ⟨_, _⟩) I hA (kg ok rfl rfl) ⟨_, _, _, _, rfl, kg ok rfl rfl, rfl, rfl⟩ rfl (BindsTo.of_eq rfl) (by decide) (locs rfl) rfl rfl rfl rfl rfl ?_
  intro L s' env N hcells I' hA'
  clear hcells
  replace ⟨m0, hm0, I'⟩ : ∃ m0 : Str → Option Value, m0 "script" = some (.ref Sa) ∧ St c ((L, m0) :: fs) ld s' := ⟨_, rfl, I'⟩
  repeat (walk_at "st")
  refine ⟨_, _, by assumption, Nat.le_of_ble_eq_true rfl, ?_⟩
  intro Ua s1 I1
  replace I1 : ∃ oU items e, oU.cls = .type "list" ∧ oU.data = .seq items e ∧ AllI 12 items ∧ St c ((L, m0) :: fs) ((Ua, oU) :: ld) s1 := by
    refine ⟨_, _, _, rfl, rfl, ⟨rfl, fun j hj => ?_⟩, I1⟩
    match j, hj with
    | 0, _ | 1, _ | 2, _ | 3, _ | 4, _ | 5, _ | 6, _ | 7, _ | 8, _ | 9, _ | 10, _ | 11, _ => exact ⟨_, _, rfl⟩
  obtain ⟨oU, items, e, hU1, hU2, hU3, I1⟩ := I1
  repeat (walk_at "st")
  let inv : Nat → (Str → Option Value) → Ld → Prop := fun i m ld' => m "script" = some (.ref Sa) ∧ m "sums" = some (.ref Ua) ∧ ∃ oU items e, oU.cls = .type "list" ∧ oU.data = .seq items e ∧ AllI 12 items ∧ ld' = (Ua, oU) :: ld
  have hLS : ∀ {fs : Fs} {ld' : Ld} {s : Shared}, St c fs ld' s → s.heap.IsList Sa vs := fun I => ⟨oS, I.base _ _ hS, hSc, eS, hSd⟩
  refine rForRange (L := L) (fs := fs) (a := 0) (c' := 1) (n := min 24 k) hA'.hh inv (fun _ => rfl) ?_ ?_ ?_
  · repeat (walk_at "st")
    refine rCallM (by intro a; exact nofun) ?_
    repeat (walk_at "st")
    refine rCallM (by intro a; exact nofun) ?_
    repeat (walk_at "st")
    refine rCallM (by intro a; exact nofun) ?_
    repeat (walk_at "st")
    rename_i t3 s3 I3
    refine call_len_list (hLS I3) (by rw [hSi.1]; omega) ?_
    replace I3 := I3.tok (tk := s3.toks + 1 + 1)
    repeat (walk_at "st")
    refine min_two_ints hA'.hh fun h4 tk4 k4 => ?_
    have I4 := I3.same (tk := tk4) k4
    rw [hSi.1]
    obtain ⟨t5, h5⟩ : ∃ t5 : Tok, (if (k : Int) < 24 then Value.int k (s3.toks + 1) else Value.int 24 t3) = .int (min 24 k : Nat) t5 := by
      split
      · exact ⟨_, by congr 1; omega⟩
      · exact ⟨_, by congr 1; omega⟩
    rw [h5]
    repeat (walk_at "st")
    refine call_range_1 ?_
    have hz := size0 (min 24 k) (by omega)
    exact ⟨_, _, _, _, _, _, _, rfl, Heap.get?_push_size _ rfl, hz.2, hz.1, I4.same (fun b o e => Heap.get?_push_of_some _ e), by walk_at "lk", by walk_at "lk", oU, items, e, hU1, hU2, hU3, rfl⟩
  · rintro i t3 m ld' Ia oI s3 hi _ ⟨hm1, hm2, oU, items, e, hU1, hU2, hU3, rfl⟩ I3
    refine wpAny_assign_Name (rStore I3 N rfl rfl fun s4 I4 => ?_)
    repeat (walk_at "st")
    refine wpAny_AugAssign_SubscriptAny ?_
    repeat (walk_at "st")
    refine mod_int' (by decide) ?_
    rename_i t5 s5 I5
    replace I5 := I5.tok (tk := s5.toks + 1)
    have hj : (0 + (i : Int) * 1).fmod 12 = ((i % 12 : Nat) : Int) := by
      rw [Int.fmod_eq_emod_of_nonneg _ (by decide)]; omega
    rw [hj]
    obtain ⟨a, ta, ha⟩ := hU3.2 (i % 12) (by omega)
    refine wpAny_getItem_list (x := .int a ta) ⟨oU, I5.ob _ (.tail _ (.head _)), hU1, e, hU2⟩ (by omega) (by omega) (by rw [Int.toNat_natCast]; exact ha) ?_
    repeat (walk_at "st")
    refine Subscript_ ?_
    repeat (walk_at "st")
    obtain ⟨b, tb, hb⟩ := hSi.2 i (by omega)
    refine rItemB (x := .int b tb) (St.base (by assumption) _ _ hS) hSc hSd (by omega) (by omega) (by rw [show (0 + (i : Int) * 1).toNat = i from by omega]; exact hb) ?_
    repeat (walk_at "st")
    refine mod_int' (by decide) ?_
    rename_i t7 s7 I7
    replace I7 := I7.tok (tk := s7.toks + 1)
    refine iadd_int ?_
    replace I7 := I7.tok (tk := s7.toks + 1 + 1)
    refine wpAny_setItem_list ⟨oU, I7.ob _ (.tail _ (.head _)), hU1, e, hU2⟩ (by omega) (by omega) (by rw [hU3.1]; omega) (fun h8 hl8 hs8 => ?_)
    obtain ⟨oU', ho', hc', e', hd'⟩ := hl8
    have I8 := ((I7.perm (List.Perm.swap _ _ _)).setOb (tk := s7.toks + 1 + 1) ho' fun b x hb e => hs8.extBut b x hb e).perm (List.Perm.swap _ _ _)
    repeat (walk_at "st")
    exact ⟨_, _, ⟨by walk_at "lk", by walk_at "lk", oU', _, e', hc', hd', hU3.set, rfl⟩, I8⟩
  · rintro m ld' s3 ⟨hm1, hm2, oU, items, e, hU1, hU2, hU3, rfl⟩ I3
    repeat (walk_at "st")
    refine wpAny_Dict_empty ?_
    have I4 := I3.new (tk := s3.toks) (o := emptyDict) rfl (Heap.get?_push_size _ rfl) fun b o e => Heap.get?_push_of_some _ e
    generalize s3.heap.objs.size = Pa at *
    refine rStore I4 N rfl rfl fun s5 I5 => ?_
    repeat (walk_at "st")
    let inv2 : Nat → (Str → Option Value) → Ld → Prop := fun i m ld' => m "sums" = some (.ref Ua) ∧ m "price" = some (.ref Pa) ∧ ∃ es ep kvs, PTab c es kvs ∧ kvs.length ≤ 2 * i ∧ (∀ j, j < i → (∃ t, valueAt kvs (key1 j) = some (.int (SV items j) t)) ∧ (∃ t, valueAt kvs (key2 j) = some (.int (SV items j) t))) ∧ ld' = (Pa, dictO es ep) :: (Ua, oU) :: ld
    refine rForRange (L := L) (fs := fs) (a := 0) (c' := 1) (n := 12) hA'.hh inv2 (fun _ => rfl) ?_ ?_ ?_
    · repeat (walk_at "st")
      refine rCallM (by intro a; exact nofun) ?_
      repeat (walk_at "st")
      refine call_range_1 ?_
      rename_i t6 s6 I6
      have hz := size0 12 (by omega)
      exact ⟨_, _, _, _, _, _, _, rfl, Heap.get?_push_size _ rfl, hz.2, hz.1, I6.same (fun b o e => Heap.get?_push_of_some _ e), by walk_at "lk", by walk_at "lk", #[], _, [], ⟨fun _ h => (by simp at h), .nil, List.nodup_nil⟩, Nat.le_refl _, fun j hj => absurd hj (Nat.not_lt_zero _), rfl⟩
    · rintro i t3 m ld' Ia oI s3 hi _ ⟨hm1, hm2, es, ep, kvs, hT, hlen, hkv, rfl⟩ I3
      refine wpAny_assign_Name (rStore I3 N rfl rfl fun s4 I4 => ?_)
      clear I3 I5
      obtain ⟨a, ta, ha⟩ := hU3.2 i hi
      have hSV : SV items i = a.fmod 6 := by unfold SV; rw [ha]
      have hdiv : (0 + (i : Int) * 1).fdiv 3 = ((i / 3 : Nat) : Int) := by rw [Int.fdiv_eq_ediv_of_nonneg _ (by decide)]; omega
      have hmod : (0 + (i : Int) * 1).fmod 3 = ((i % 3 : Nat) : Int) := by rw [Int.fmod_eq_emod_of_nonneg _ (by decide)]; omega
      repeat (walk_at "st")
      refine wpAny_Assign_Subscript ?_
      repeat (walk_at "st")
      refine Subscript_ ?_
      repeat (walk_at "st")
      refine rItemL (x := .int a ta) I4 (.tail _ (.tail _ (.head _))) hU1 hU2 (by omega) (by omega) (by rw [show (0 + (i : Int) * 1).toNat = i from by omega]; exact ha) ?_
      repeat (walk_at "st")
      refine mod_int' (by decide) ?_
      rename_i t5 s5 I5
      replace I5 := I5.tok (tk := s5.toks + 1)
      repeat (walk_at "st")
      refine Subscript_ ?_
      repeat (walk_at "st")
      refine floordiv_int (by decide) ?_
      rename_i t6 s6 I6
      replace I6 := I6.tok (tk := s6.toks + 1)
      rw [hdiv]
      refine item_str (fitN _ (by omega)) (by rw [lenA]; omega) (by rw [lenA]; omega) ?_
      intro _
      rw [itA _ (by omega)]
      replace I6 := I6.tok (tk := s6.toks + 1 + 1)
      repeat (walk_at "st")
      refine Subscript_ ?_
      repeat (walk_at "st")
      refine mod_int' (by decide) ?_
      rename_i t7 s7 I7
      replace I7 := I7.tok (tk := s7.toks + 1)
      rw [hmod]
      refine item_str (fitN _ (by omega)) (by rw [lenK]; omega) (by rw [lenK]; omega) ?_
      intro _
      rw [itK _ (by omega)]
      replace I7 := I7.tok (tk := s7.toks + 1 + 1)
      refine PyProof.Rows.add_str ?_ (Nat.le_of_ble_eq_true rfl)
      intro t8 k8
      refine rSetItemS (k := key1 i) ((I7.tok (tk := k8)).perm (List.Perm.swap _ _ _)) hT (by omega) ?_
      intro s9 es9 ep9 hT9 I9
      replace I9 := I9.perm (List.Perm.swap _ _ _)
      clear I4 I5 I6 I7
      repeat (walk_at "st")
      refine wpAny_Assign_Subscript ?_
      repeat (walk_at "st")
      refine Subscript_ ?_
      repeat (walk_at "st")
      refine rItemL (x := .int a ta) I9 (.tail _ (.tail _ (.head _))) hU1 hU2 (by omega) (by omega) (by rw [show (0 + (i : Int) * 1).toNat = i from by omega]; exact ha) ?_
      repeat (walk_at "st")
      refine mod_int' (by decide) ?_
      rename_i t5 s5 I5
      replace I5 := I5.tok (tk := s5.toks + 1)
      repeat (walk_at "st")
      refine Subscript_ ?_
      repeat (walk_at "st")
      refine mod_int' (by decide) ?_
      rename_i t7 s7 I7
      replace I7 := I7.tok (tk := s7.toks + 1)
      rw [hmod]
      refine item_str (fitN _ (by omega)) (by rw [lenK]; omega) (by rw [lenK]; omega) ?_
      intro _
      rw [itK _ (by omega)]
      replace I7 := I7.tok (tk := s7.toks + 1 + 1)
      repeat (walk_at "st")
      refine Subscript_ ?_
      repeat (walk_at "st")
      refine floordiv_int (by decide) ?_
      rename_i t6 s6 I6
      replace I6 := I6.tok (tk := s6.toks + 1)
      rw [hdiv]
      refine item_str (fitN _ (by omega)) (by rw [lenA]; omega) (by rw [lenA]; omega) ?_
      intro _
      rw [itA _ (by omega)]
      replace I6 := I6.tok (tk := s6.toks + 1 + 1)
      refine PyProof.Rows.add_str ?_ (Nat.le_of_ble_eq_true rfl)
      intro t10 k10
      have hlen9 : ∀ v, (stored kvs (key1 i) v).length ≤ kvs.length + 1 := fun v => stored_length_le kvs (key1 i) v
      refine rSetItemS (k := key2 i) ((I6.tok (tk := k10)).perm (List.Perm.swap _ _ _)) hT9 (Nat.le_trans (hlen9 _) (by omega)) ?_
      intro s11 es11 ep11 hT11 I11
      replace I11 := I11.perm (List.Perm.swap _ _ _)
      repeat (walk_at "st")
      refine ⟨_, _, ⟨by walk_at "lk", by walk_at "lk", es11, ep11, _, hT11, ?_, fun j hj => ⟨?_, ?_⟩, rfl⟩, I11⟩
      · refine Nat.le_trans (stored_length_le _ _ _) ?_
        have := hlen9 (.int (a.fmod 6) s5.toks)
        refine Nat.le_trans (Nat.succ_le_succ (hlen9 _)) ?_
        omega
      · rw [valueAt_stored, if_neg (key_21 hi (by omega)), valueAt_stored]
        by_cases hji : j = i
        · subst hji
          rw [if_pos rfl, hSV]; exact ⟨_, rfl⟩
        · rw [if_neg fun h => hji (key_11 h)]
          exact (hkv j (by omega)).1
      · rw [valueAt_stored]
        by_cases hji : j = i
        · subst hji
          rw [if_pos rfl, hSV]; exact ⟨_, rfl⟩
        · rw [if_neg fun h => hji (key_22 h), valueAt_stored, if_neg (key_12 hi (by omega))]
          exact (hkv j (by omega)).2
    · rintro m ld' s3 ⟨hm1, hm2, es, ep, kvs, hT, hlen, hkv, rfl⟩ I3
      repeat (walk_at "st")
      have I4 := (I3.dropFr).subl (List.Sublist.cons_cons _ (List.Sublist.cons _ (List.Sublist.refl _)))
      refine h Pa es ep (prS items) s3 I4 ⟨.head _, hT.keys, fun x q hxq => ?_⟩ prS_sym prS_nn
      have hf : ∀ k, findBy (SK c).is es k = valueAt kvs k := fun k => by
        unfold findBy
        rw [← Array.find?_toList]
        exact hT.pairs.find k
      rw [hf]
      have hA1 : ∀ x, isA x = true → 97 ≤ x ∧ x ≤ 100 := fun x h => of_decide_eq_true h
      have hK1 : ∀ x, isK x = true → 107 ≤ x ∧ x ≤ 109 := fun x h => of_decide_eq_true h
      rcases hxq with ⟨h1, h2⟩ | ⟨h1, h2⟩
      · have a1 := hA1 x h1
        have a2 := hK1 q h2
        have := (hkv (3 * (x - 97) + (q - 107)) (by omega)).1
        rw [show key1 (3 * (x - 97) + (q - 107)) = L2 x q from by
          have e1 : 97 + (3 * (x - 97) + (q - 107)) / 3 = x := by omega
          have e2 : 107 + (3 * (x - 97) + (q - 107)) % 3 = q := by omega
          show L2 _ _ = _
          rw [e1, e2]] at this
        unfold prS
        rw [h1, h2]; exact this
      · have a1 := hK1 x h1
        have a2 := hA1 q h2
        have := (hkv (3 * (q - 97) + (x - 107)) (by omega)).2
        rw [show key2 (3 * (q - 97) + (x - 107)) = L2 x q from by
          have e1 : 97 + (3 * (q - 97) + (x - 107)) / 3 = q := by omega
          have e2 : 107 + (3 * (q - 97) + (x - 107)) % 3 = x := by omega
          show L2 _ _ = _
          rw [e1, e2]] at this
        unfold prS
        rw [h1, h2, Bool.and_true, if_pos rfl, show isA x = false from decide_eq_false (by omega), Bool.false_and, if_neg (by decide)]; exact this
end

/-! part F23 -/
section
open Builtin Builtin.ObjectAttr
section
variable {c : Cx} {fs fs' : Fs} {ld ld' : Ld} {s : Shared} {A : Around} {env : Env} {L : Addr} {m : Str → Option Value} {sc : Scope} {cd : Value}
variable {n : Nat} {Q : Value → Shared → Prop}

theorem info_none (ok : c.Ok) (I : St c fs ld s) (hA : AOk (n + 3) A) {q : Str} {t : Tok} {dv : Value}
    (h : ∀ T t s', St c fs ((T, tup #[.ref 61, .str (Str.ofString "") t]) :: ld) s' → Q (.ref T) s') :
    wpAny c.MD A (call (.ref 68) [.str q t, .none] [(Str.ofString "default", dv)]) Q NoE s := by
  refine callFG (args := ⟨[.str q t, .none], [(_, dv)]⟩) I hA (kg ok rfl rfl) ⟨_, _, _, _, rfl, kg ok rfl rfl, rfl, rfl⟩ rfl (by decide) rfl rfl rfl rfl rfl ?_
  have I1 := I.new (tk := s.toks) (o := emptyDict) rfl (Heap.get?_push_size _ rfl) fun b o e => Heap.get?_push_of_some _ e
  refine wpAny_eqTree (t' := alloc emptyDict >>= fun d => (forIn [(Str.ofString "default", dv)] PUnit.unit (fun x _ => nsSet d x.1 x.2 >>= fun _ => pure (ForInStep.yield PUnit.unit))) >>= fun _ => pure [(Str.ofString "name_index", Value.str q t), (Str.ofString "get_name", Value.none), (Str.ofString "extrainfo", Value.ref d)]) ?_ (by kernel_rfl)
  refine wpAny_bind (wpAny_alloc ?_)
  rw [List.forIn_cons]
  refine wpAny_bind (wpAny_bind (wpAny_bind (rNsSet0 I1 fun s1 hh tk I2 => ?_)))
  refine wpAny_pure (wpAny_pure (wpAny_pure ⟨_, I2, locs rfl, ?_⟩))
  intro L s' env N hcells I' hA'
  clear hcells
  repeat (walk_at "st")
  refine wpAny_isNot_self rfl ?_
  refine wpAny_truthy_bool ?_
  rw [if_neg (by decide)]
  repeat (walk_at "st")
  refine ⟨_, _, by assumption, Nat.le_of_ble_eq_true rfl, ?_⟩
  intro T s6 I6
  repeat (walk_at "st")
  exact h T _ _ ((St.dropFr (by assumption)).subl (List.Sublist.cons_cons _ (List.Sublist.cons _ (List.Sublist.refl _))))

theorem mro285 : ∃ cd, clsIn c.K 285 = some cd ∧ cd.mro = [.ref 285, .type "object"] := Option.map_eq_some_iff.mp (show (clsIn c.K 285).map (·.mro) = some [.ref 285, .type "object"] from by kernel_rfl)
theorem refuseH (x : Addr) : refuseLoop (.ref x) "__setattr__" [.ref 285, .type "object"] = pure () := by kernel_rfl
theorem setAttr_H {Hd Dd : Addr} {v : Value} {Q : Unit → Shared → Prop} (I : St c fs ((Dd, emptyDict) :: ld) s) (hL : (Hd, dealsO Dd) ∈ ld)
    (h : ∀ s' hh tk, St c fs ((Dd, oneD (Str.ofString "_headers") hh tk v) :: ld) s' → Q () s') : wpAny c.MD A (setAttr (.ref Hd) (Str.ofString "_headers") v) Q NoE s := by
  have J : InstAt s.heap Hd (dealsO Dd) 285 (some emptyDict) := ⟨I.ob _ (.tail _ hL), rfl, rfl, I.ob _ (.head _)⟩
  have SF := PySem.F.store_object
  refine set_plain I.kx J (by kernel_rfl) ?_
  have I := I.tok (tk := s.toks + 1)
  refine codeAny_call_builtin SF.slot.plain SF.entry (@check_slot c.MD _ _ _ "object.__setattr__" "object" "__setattr__" (.ref Hd) [.str _ _, v] [] _ SF.kind SF.split (J.type.andThen (looks_mroIn I.kx (by kernel_rfl))) (SF.args (.ref Hd) _ v) ?_)
  obtain ⟨cd, hc, hm0⟩ := mro285 (c := c)
  have hm : Looks c.MD s.heap (mroOf (.ref 285)) cd.mro := (looks_clsIn I.kx hc).andThen .now
  have L3 : Looks c.MD s.heap (storeTaker? none) none := .now
  have hcd : (clsIn c.K 285).map (·.hasDict) = some true := by kernel_rfl
  rw [hc] at hcd
  have hcd : cd.hasDict = true := Option.some.inj hcd
  have D := I.ob _ (.head _)
  have L4 := looks_findIn (M := c.MD) (r := none) I.kx (t := .ref 285) (name := "_headers") (by kernel_rfl)
  have L5 := looks_clsIn (M := c.MD) I.kx hc
  have L0 := J.type (M := c.MD)
  have hat := J.at_
  obtain ⟨hp, g, d, t, os⟩ := s
  rw [osa_eq, refuse_eq]
  refine wpAny_bind (wpAny_bind (L0.at (wpAny_bind (hm.at ?_))))
  rw [hm0, refuseH]
  refine wpAny_pure (wpAny_bind (L0.at (wpAny_bind (L4.at (wpAny_bind (L3.at ?_))))))
  refine wpAny_bind (wpAny_pure (wpAny_bind (wpAny_bind (wpAny_loadPart hat (wpAny_bind (L5.at ?_))))))
  rw [hcd]
  refine wpAny_pure (a := some Dd) (wpAny_bind (wpAny_pure (wpAny_bind ?_)))
  refine rNsSet0 I (fun s' hh tk I' => ?_)
  have G := I'.ob _ (.head _)
  obtain ⟨hp', g', d', t', os'⟩ := s'
  refine wpAny_bind (wpAny_lookBehind G (pastItsLine_dict (Nat.le_of_ble_eq_true rfl)) ?_)
  exact wpAny_pure (h _ _ _ I')
theorem ddict1 (hh : Int) (tk : Tok) (Ll : Addr) : DDict (oneD (Str.ofString "_headers") hh tk (.ref Ll)) Ll := by
  refine ⟨by simp [lookIn, Value.isStr, DictEntry.refKey], fun name hn => ?_⟩
  have hn' : (Str.ofString "_headers" == name) = false := by rw [← hn]; exact Bool.eq_iff_iff.mpr ⟨fun h => by rw [beq_iff_eq] at h ⊢; exact h.symm, fun h => by rw [beq_iff_eq] at h ⊢; exact h.symm⟩
  simp [lookIn, Value.isStr, hn', DictEntry.refKey]

variable {Ll : Addr} {items : Array Value} {e : Nat} {g : List (Str × Str)} {Ts : Nat → Addr} {vals : Nat → Array Value}
theorem AOk.tcallG {n : Nat} {A : Around} (h : AOk (n + 1) A) (Ll : Addr) : AOk n (A.under (.builtin "type.__call__" ⟨[.ref 285, .ref Ll], []⟩)) := by
  have w : (Code.builtin "type.__call__" ⟨[.ref 285, .ref Ll], []⟩).weight = 1 := by kernel_rfl
  have u : (Code.builtin "type.__call__" ⟨[.ref 285, .ref Ll], []⟩).cUnits = 1 := by kernel_rfl
  have ev : (Code.builtin "type.__call__" ⟨[.ref 285, .ref Ll], []⟩).envs = [] := by kernel_rfl
  have gu : (Code.builtin "type.__call__" ⟨[.ref 285, .ref Ll], []⟩).guards = [] := by kernel_rfl
  have eq : A.under (.builtin "type.__call__" ⟨[.ref 285, .ref Ll], []⟩) = { A with depth := A.depth + 1, units := A.units + 1 } := by
    unfold Around.under
    rw [w, u, ev, gu]; rfl
  rw [eq]
  obtain ⟨h1, h2, h3, ⟨l, h4⟩, h5⟩ := h
  exact ⟨h1, by show A.depth + 1 + n ≤ 900; omega, by show A.units + 1 + 20 * n + 20 ≤ 9000; omega, ⟨l, h4⟩, h5⟩

theorem headers_ct (ok : c.Ok) (I : St c fs ld s) (hA : AOk (n + 4) A) (hl : (Ll, listO items e) ∈ ld) (H : Holds ld items g Ts vals) (hg : ∀ p ∈ g, OkS p.1 ∧ OkS p.2) (hlen : g.length ≤ 100)
    (h : ∀ Hd Dd dd s', DDict dd Ll → St c fs ((Hd, dealsO Dd) :: (Dd, dd) :: ld) s' → Q (.ref Hd) s') : wpAny c.MD A (call (.ref 285) [.ref Ll] []) Q NoE s := by
  have Y : Makes c.MD s.heap 285 := makes_of I.kx (by kernel_rfl)
  refine wpAny_call ?_
  have hi := looks_findIn (M := c.MD) I.kx (t := .ref 285) (name := "__init__") (r := some (.ref 177)) (by kernel_rfl)
  have hb : ∀ self, Looks c.MD s.heap (bindSpecial (.ref 177) self) (.ref 177, [self]) := fun self => bind_fn I.kx self (by kernel_rfl)
  have I1 := (I.new (tk := s.toks) (o := emptyDict) rfl (Heap.get?_push_size _ rfl) fun b o e => Heap.get?_push_of_some _ e)
  have I2 := (I1.new (tk := s.toks) (o := dealsO s.heap.objs.size) rfl (Heap.get?_push_size _ rfl) fun b o e => Heap.get?_push_of_some _ e)
  obtain ⟨hh, g0, d, t, os⟩ := s
  refine make_core Y hi hb (.inl rfl) ?_
  dsimp only at I2
  rw [Heap.size_push] at I2
  generalize hL : hh.objs.size + 1 = Hd at *
  generalize hD : hh.objs.size = Dd at *
  have hA' : AOk (n + 3) (A.under (.builtin "type.__call__" ⟨[.ref 285, .ref Ll], []⟩)) := hA.tcallG _
  have I3 := I2.perm (List.Perm.swap _ _ _)
  clear I1 I2 I
  refine codeFAt (args := ⟨[.ref Hd, .ref Ll], []⟩) I3 hA' (kg ok rfl rfl) ⟨_, _, _, _, rfl, kg ok rfl rfl, rfl, rfl⟩ rfl (BindsTo.of_defaults (o := ⟨.type "tuple", none, .seq #[.none] 0, #[]⟩) rfl (I3.base _ _ (kg ok rfl rfl)) rfl rfl rfl) (by decide) (locs rfl) rfl rfl rfl rfl rfl ?_
  intro L s' env N hcells hfu I' hA'
  clear hcells hfu
  refine wpAt_of_wpAny ?_
  replace ⟨m0, hm0, hm1, I'⟩ : ∃ m0 : Str → Option Value, m0 "self" = some (.ref Hd) ∧ m0 "headers" = some (.ref Ll) ∧ St c ((L, m0) :: fs) ((Dd, emptyDict) :: (Hd, dealsO Dd) :: ld) s' := ⟨_, rfl, rfl, I'⟩
  repeat (walk_at "st")
  generalize (A.under (.builtin "type.__call__" ⟨[.ref 285, .ref Ll], []⟩)).deeper env = A2 at *
  refine wpAny_isNot_other rfl nofun ?_
  refine wpAny_truthy_bool ?_
  rw [if_pos rfl]
  repeat (walk_at "st")
  refine rCallM (by intro a; exact nofun) ?_
  repeat (walk_at "st")
  have hlT : ∀ {fs : Fs} {ld' : Ld} {s : Shared}, St c fs ld' s → (Ll, listO items e) ∈ ld' → s.TypeIs (.ref Ll) "list" := fun I h => ⟨_, I.ob _ h, rfl⟩
  refine call_type_of (Tx := "list") (hlT (by assumption) (.tail _ (.tail _ hl))) (by decide) ?_
  repeat (walk_at "st")
  refine wpAny_isNot_self (by rfl) ?_
  refine wpAny_truthy_bool ?_
  rw [if_neg (by decide)]
  repeat (walk_at "st")
  refine plainObj_wpAny_Assign_Attribute ?_
  repeat (walk_at "st")
  rename_i s1 I1
  refine setAttr_H I1 (.head _) ?_
  intro s2 hh1 tk1 I2
  have hdd := ddict1 hh1 tk1 Ll
  generalize oneD (Str.ofString "_headers") hh1 tk1 (.ref Ll) = dd at *
  have D : Deals ((Dd, dd) :: (Hd, dealsO Dd) :: ld) Hd Dd dd Ll items e g Ts vals := ⟨.tail _ (.head _), .head _, hdd, .tail _ (.tail _ hl), H.mono fun p hp => .tail _ (.tail _ hp), hg, hlen⟩
  clear I1
  repeat (walk_at "st")
  refine wpAny_isTrue_value ?_
  repeat (walk_at "st")
  refine wpAny_truthy_bool ?_
  rw [if_pos rfl]
  repeat (walk_at "st")
  refine rForList (L := L) (fs := fs) hA'.hh (fun i m' => m' "self" = some (.ref Hd)) (.inr ⟨⟨_, _, _, rfl⟩, ?_⟩) D.ls (fun _ => rfl) ?_ ?_ ?_
  · intro i v hv
    obtain ⟨hi, rfl⟩ := Array.getElem?_eq_some_iff.mp hv
    have := H.item i hi
    rw [hv] at this
    exact ⟨_, Option.some.inj this⟩
  · repeat (walk_at "st")
    exact ⟨rfl, _, by assumption, by walk_at "lk"⟩
  · rintro i v m Ia oI s3 hv hm I3
    obtain ⟨hi, e1⟩ := Array.getElem?_eq_some_iff.mp hv
    have e2 := D.hs.item i hi
    rw [hv] at e2
    cases Option.some.inj e2
    obtain ⟨p, hp⟩ : ∃ p, g[i]? = some p := ⟨_, List.getElem?_eq_getElem (D.hs.size ▸ hi : i < g.length)⟩
    obtain ⟨t1, u1, ev⟩ := D.hs.val i p hp
    have hob := D.hs.obj i hi
    rw [ev] at hob
    have okp := D.ok p (List.mem_of_getElem? hp)
    have D' : Deals ((Ia, oI) :: (Dd, dd) :: (Hd, dealsO Dd) :: ld) Hd Dd dd Ll items e g Ts vals := D.mono fun p hp => .tail _ hp
    refine rAssign2 hA'.hh I3 N rfl rfl rfl (.tail _ hob) ?_
    intro s4 I4
    clear I3
    repeat (walk_at "st")
    refine rExpr (by assumption) rfl rfl ?_
    refine MethodCallKw ?_
    repeat (walk_at "st")
    refine method_f2 I4.kx (D'.inst I4) fh_ga PySem.F.canon_object_ga fh_gt fh_conv (by kernel_rfl) (hdd.sh rfl) ?_
    refine rCallKw (kg ok rfl rfl) ?_
    repeat (walk_at "st")
    refine ⟨⟨_, _, I4⟩, ?_⟩
    refine convert_ct (n := n) ok I4 (hA'.mono (by omega)) okp.1 true ?_ Hd
    intro s5 I5
    clear I4
    repeat (walk_at "st")
    refine rExpr (by assumption) rfl rfl ?_
    refine MethodCallKw ?_
    repeat (walk_at "st")
    refine method_f2 I5.kx (D'.inst I5) fh_ga PySem.F.canon_object_ga fh_gt fh_conv (by kernel_rfl) (hdd.sh rfl) ?_
    refine rCallKw (kg ok rfl rfl) ?_
    repeat (walk_at "st")
    refine ⟨⟨_, _, I5⟩, ?_⟩
    refine convert_ct (n := n) ok I5 (hA'.mono (by omega)) okp.2 false ?_ Hd
    intro s6 I6
    repeat (walk_at "st")
    exact ⟨_, by walk_at "lk", I6⟩
  · rintro m s3 hm I3
    repeat (walk_at "st")
    exact ⟨rfl, h Hd Dd dd s3 hdd (I3.dropFr.perm (List.Perm.swap _ _ _))⟩
end
end

/-! part F24 -/
section
variable {c : Cx} {fs fs' : Fs} {ld ld' : Ld} {s : Shared} {A : Around} {env : Env} {L : Addr} {m : Str → Option Value} {sc : Scope} {cd : Value}
variable {n : Nat} {Q : Value → Shared → Prop}

abbrev sliceO (a b d : Value) : Obj := { cls := .type "slice", data := .fields #[a, b, d] }

theorem rSetAll {Ll Nl Sl : Addr} {items new : Array Value} {e e2 : Nat} {Q : Unit → Shared → Prop} (I : St c fs ((Ll, listO items e) :: ld) s) (hN : (Nl, listO new e2) ∈ ld) (hS : s.heap.get? Sl = some (sliceO .none .none .none)) (hz : items.size ≤ 1000) (hz2 : new.size ≤ 1000)
    (h : ∀ s' e', St c fs ((Ll, listO new e') :: ld) s' → Q () s') : wpAny c.MD A (setItem (.ref Ll) (.ref Sl) (.ref Nl)) Q NoE s := by
  have ho := I.ob _ (.head _)
  have hn := I.ob _ (.tail _ hN)
  have hl : s.heap.IsList Ll items := ⟨_, ho, rfl, e, rfl⟩
  have hnl : s.heap.IsList Nl new := ⟨_, hn, rfl, e2, rfl⟩
  have hTs : s.TypeIs (.ref Sl) "slice" := ⟨_, hS, rfl⟩
  have hne : Ll ≠ Nl := by
    intro h
    have nd := I.nd
    simp only [addrs, List.map_cons] at nd
    have nd2 := (List.nodup_append.mp nd).2.1
    exact (List.nodup_cons.mp nd2).1 (h ▸ List.mem_map.mpr ⟨_, hN, rfl⟩)
  unfold setItem
  try with_reducible refine wpAny_holding ?_
  first | refine wpAny_bind (wpAny_pure ?_) | skip
  refine wpAny_bind (wpAny_sequenceKey hl.typeIs (by decide) ?_)
  refine wpAny_bind (wpAny_callSpecial?_slot (name := Str.ofString "__setitem__") hl.typeIs slot_list_setitem
    (wpAny_call_entry slot_list_setitem hl.typeIs entry_list_setitem ?_ (args_list_setitem _ _ _)))
  show wpAny _ _ (Builtin.List.listSubscript? (.ref Sl) >>= _) _ _ s
  refine wpAny_bind ?_
  unfold Builtin.List.listSubscript?
  refine wpAny_bind (wpAny_specialOf hTs slice_no_index ?_)
  simp only [Option.isNone_none, if_true]
  refine wpAny_pure ?_
  show wpAny _ _ (typeOf (.ref Sl) >>= _) _ _ s
  refine wpAny_bind (wpAny_typeOf hTs ?_)
  rw [if_neg (by decide)]
  have hTn : s.TypeIs (.ref Nl) "list" := ⟨_, hn, rfl⟩
  rw [listSliceParts_eq]
  refine wpAny_bind (wpAny_bind (wpAny_field hS rfl (x := .none) rfl (wpAny_bind (wpAny_listPart .none ?_))))
  rw [if_neg (show ¬ ((rawPart none == rawInt 0) = true) from Bool.false_ne_true)]
  refine wpAny_bind (wpAny_field hS rfl (x := .none) rfl (wpAny_bind (wpAny_listPart .none ?_)))
  refine wpAny_bind (wpAny_field hS rfl (x := .none) rfl (wpAny_bind (wpAny_listPart .none (wpAny_pure ?_))))
  dsimp only
  rw [if_neg (show ¬ (Builtin.List.listSameRef (.ref Ll) (.ref Nl) = true) from by show ¬ ((Ll == Nl) = true); simpa using hne)]
  refine wpAny_bind ?_
  unfold Builtin.List.listAllItems
  refine wpAny_bind (wpAny_typeOf hTn ?_)
  rw [if_pos (by decide)]
  unfold Builtin.List.listItems
  refine wpAny_bind (wpAny_seqItems hn rfl (wpAny_pure ?_))
  refine wpAny_bind (wpAny_bind (wpAny_seqItems ho rfl (wpAny_pure ?_)))
  refine wpAny_bind (wpAny_of_eq (sliceIndices_raw none none none items.size (by simp)) ?_)
  have hb : sliceBounds none none none items.size = (0, (items.size : Int), 1) := rfl
  rw [hb]
  rw [if_pos (by rfl)]
  refine wpAny_bind (wpAny_rule ?_)
  have htl : Builtin.List.listTooLong (items.size + new.size) = false := by
    unfold Builtin.List.listTooLong
    exact decide_eq_false (Nat.not_lt.mpr (Nat.le_trans (by omega : items.size + new.size ≤ 2000) (by decide)))
  rw [htl, if_neg (by decide)]
  refine wpAny_bind ?_
  show wpAny _ _ (updateSeq Ll _) _ _ _
  have hf : (items.extract 0 (0 : Int).toNat ++ new ++ items.extract (max (0 : Int) (items.size : Int)).toNat) = new := by
    rw [show (max (0 : Int) (items.size : Int)).toNat = items.size from by omega]
    simp
  refine rUpdSeq I (by dsimp only; rw [hf]; exact Nat.le_trans hz2 (by decide)) (Nat.le_trans hz (by decide)) fun s' k' I' => ?_
  dsimp only at I'
  rw [hf] at I'
  refine wpAny_bind (wpAny_letGo ?_)
  exact wpAny_pure ⟨.none, rfl, wpAny_pure (h s' k' I')⟩

/-- a list read whole: a new list -/
theorem rCopyAll {value slice : PySem.Expr} {Ll : Addr} {items : Array Value} {e : Nat} (I : St c fs ld s) (hl : (Ll, listO items e) ∈ ld) (hz : items.size ≤ 1000)
    (h : ∀ D e' s', St c fs ((D, listO items e') :: ld) s' → Q (.ref D) s')
    (hs : subscripted slice false (.ref Ll) (.ref s.heap.objs.size) = operate [.ref s.heap.objs.size, .ref Ll] (getItem (.ref Ll) (.ref s.heap.objs.size)) := by with_unfolding_all rfl)
    (ht : ∀ r, letTemporaryGo value (.ref Ll) r = pure () := by intro _; with_unfolding_all rfl) :
    wpAny c.MD A (subscriptTail value slice (.ref Ll) (.ref s.heap.objs.size)) Q NoE { s with heap := s.heap.push (sliceO .none .none .none) } := by
  have I1 := I.same (tk := s.toks) (h' := s.heap.push (sliceO .none .none .none)) fun b o e => Heap.get?_push_of_some _ e
  have hL : (s.heap.push (sliceO .none .none .none)).IsList Ll items := ⟨_, I1.ob _ hl, rfl, e, rfl⟩
  refine subscriptTail_ops (T := "list") (s := { s with heap := s.heap.push (sliceO .none .none .none) }) hL.typeIs list_getitem_lookup
    (wpAny_getItem_list_slice hL (Heap.IsSliceOf.new ..) .none .none .none (by simp) ?_ (Nat.le_trans hz (by decide))) hs ht
  rw [slicePick_all]
  exact h _ 0 _ (I1.new (tk := s.toks) rfl (Heap.get?_push_size _ rfl) fun b o e => Heap.get?_push_of_some _ e)

variable {Hd Dd : Addr} {dd : Obj} {Ll : Addr} {dit : Array Value} {de : Nat} {g : List (Str × Str)} {Td : Nat → Addr} {vd : Nat → Array Value}
theorem Deals.sz (D : Deals ld Hd Dd dd Ll dit de g Td vd) : dit.size ≤ 100 := by rw [D.hs.size]; exact D.len

theorem items_ct (ok : c.Ok) (I : St c fs ld s) (hA : AOk (n + 1) A) (D : Deals ld Hd Dd dd Ll dit de g Td vd)
    (h : ∀ N e s', St c fs ((N, listO dit e) :: ld) s' → Q (.ref N) s') : wpAny c.MD A (call (.ref 249) [.ref Hd] []) Q NoE s := by
  refine callF (args := ⟨_, _⟩) I hA (kg ok rfl rfl) ⟨_, _, _, _, rfl, kg ok rfl rfl, rfl, rfl⟩ rfl (BindsTo.of_eq rfl) (by decide) (locs rfl) rfl rfl rfl rfl rfl ?_
  intro L s' env N hcells I' hA'
  clear hcells
  repeat (walk_at "st")
  refine Subscript_ ?_
  refine Attribute_Name_ ?_
  repeat (walk_at "st")
  refine get_value I'.kx (D.inst I') fh_ga (findObj_own (attr := none) (by kernel_rfl) (by kernel_rfl) rfl D.dd.1) rfl ?_
  refine wpAny_Slice ?_
  rw [evalPart_none]
  refine wpAny_pure (wpAny_pure (wpAny_pure ?_))
  refine kba_turn (value' := .Name (Str.ofString "self") ⟨0, 0, 0, 0⟩) (by intro _; rfl) ?_
  refine rCopyAll I'.tok D.ls (Nat.le_trans D.sz (by decide)) ?_
  intro N' e' s1 I1
  repeat (walk_at "st")
  exact h _ _ _ I1.dropFr
end

/-! part F25 -/
section
variable {c : Cx} {fs fs' : Fs} {ld ld' : Ld} {s : Shared} {A : Around} {env : Env} {L : Addr} {m : Str → Option Value} {sc : Scope} {cd : Value}
variable {n : Nat} {Q : Value → Shared → Prop}
variable {Hd Dd : Addr} {dd : Obj} {Ll : Addr} {dit : Array Value} {de : Nat} {g : List (Str × Str)} {Td : Nat → Addr} {vd : Nat → Array Value}

def delS (g : List (Str × Str)) (nm : Str) : List (Str × Str) := g.filter fun p => !(Txt.lower p.1 == Txt.lower nm)

theorem Holds.snoc {pit : Array Value} {Ts : Nat → Addr} {vals : Nat → Array Value} {g : List (Str × Str)} {T : Addr} {a b : Str} {t u : Tok} (H : Holds ld pit g Ts vals) (hT : (T, tup #[.str a t, .str b u]) ∈ ld) :
    ∃ Ts' vals', Holds ld (pit.push (.ref T)) (g ++ [(a, b)]) Ts' vals' := by
  refine ⟨_, _, (H.push (tp := T) (a := a) (b := b) (t := t) (u := u)).mono fun p hp => ?_⟩
  rcases List.mem_cons.mp hp with rfl | hp
  · exact hT
  · exact hp

/-- the headers' list is changed in its place -/
theorem Deals.swap (D : Deals ld Hd Dd dd Ll dit de g Td vd) (I : St c fs ld s) : ∃ l₁ l₂, ld = l₁ ++ (Ll, listO dit de) :: l₂ ∧ St c fs ((Ll, listO dit de) :: (l₁ ++ l₂)) s ∧ (∀ p ∈ ld, p.1 ≠ Ll → p ∈ l₁ ++ l₂) := by
  obtain ⟨l₁, l₂, e⟩ := List.append_of_mem D.ls
  refine ⟨l₁, l₂, e, ?_, fun p hp hne => ?_⟩
  · rw [e] at I
    exact I.perm List.perm_middle.symm
  · rw [e] at hp
    rcases List.mem_append.mp hp with h | h
    · exact List.mem_append.mpr (.inl h)
    · rcases List.mem_cons.mp h with h | h
      · exact absurd (by rw [h]) hne
      · exact List.mem_append.mpr (.inr h)

theorem St.neO {a b : Addr} {o o' : Obj} (I : St c fs ld s) (h1 : (a, o) ∈ ld) (h2 : (b, o') ∈ ld) (ho : o.cls ≠ o'.cls) : a ≠ b := fun h => by
  have a := I.ob _ h1
  have b := I.ob _ h2
  dsimp only at a b
  rw [h, b] at a
  exact ho (by rw [Option.some.inj a])
theorem Deals.neH (D : Deals ld Hd Dd dd Ll dit de g Td vd) (I : St c fs ld s) : Hd ≠ Ll := I.neO D.ob D.ls (by show Value.ref 285 ≠ Value.type "list"; exact nofun)
theorem Deals.neT (D : Deals ld Hd Dd dd Ll dit de g Td vd) (I : St c fs ld s) {a : Addr} {o : Obj} (ha : (a, o) ∈ ld) (ho : ∃ vs, o = tup vs) : a ≠ Ll := I.neO ha D.ls (by obtain ⟨vs, rfl⟩ := ho; show Value.type "tuple" ≠ Value.type "list"; decide)

theorem Deals.made {dit' : Array Value} {de' : Nat} {g' : List (Str × Str)} {Td' : Nat → Addr} {vd' : Nat → Array Value} {l' : Ld} (D : Deals ld Hd Dd dd Ll dit de g Td vd) (hm : ∀ p ∈ ld, p.1 ≠ Ll → p ∈ l')
    (hH : Holds l' dit' g' Td' vd') (hok : ∀ p ∈ g', OkS p.1 ∧ OkS p.2) (hlen : g'.length ≤ 100) (hL : (Ll, listO dit' de') ∈ l') (hnd : Dd ≠ Ll) (hnh : Hd ≠ Ll) : Deals l' Hd Dd dd Ll dit' de' g' Td' vd' where
  ob := hm _ D.ob hnh
  dc := hm _ D.dc hnd
  dd := D.dd
  ls := hL
  hs := hH
  ok := hok
  len := hlen

theorem Deals.ne (D : Deals ld Hd Dd dd Ll dit de g Td vd) (I : St c fs ld s) : Dd ≠ Ll := fun h => by
  have a := I.ob _ D.dc
  have b := I.ob _ D.ls
  dsimp only at a b
  rw [h, b] at a
  have hd := D.dd.1
  cases Option.some.inj a
  simp [lookIn] at hd

theorem Holds.monoT {items : Array Value} {g : List (Str × Str)} {Ts : Nat → Addr} {vals : Nat → Array Value} (H : Holds ld items g Ts vals) (h : ∀ p ∈ ld, (∃ vs, p.2 = tup vs) → p ∈ ld') : Holds ld' items g Ts vals :=
  ⟨H.size, H.item, fun j hj => h _ (H.obj j hj) ⟨_, rfl⟩, H.val⟩
theorem St.headNe {a b : Addr} {o o' : Obj} (I : St c fs ((a, o) :: ld) s) (h : (b, o') ∈ ld) : a ≠ b := fun e => by
  have nd := I.nd
  simp only [addrs, List.map_cons] at nd
  have nd2 := (List.nodup_append.mp nd).2.1
  exact (List.nodup_cons.mp nd2).1 (e ▸ List.mem_map.mpr ⟨_, h, rfl⟩)

theorem fits0 : seqIndex? 0 2 = some 0 := by decide

def delSc : Scope := { kind := .function, names := [(".0", .local), ("kv", .local), ("name", .cell)], isGenerator := false, isCoroutine := false, more := [] }
theorem delS_sub {g : List (Str × Str)} {nm : Str} {p : Str × Str} (h : p ∈ delS g nm) : p ∈ g := (List.mem_filter.mp h).1

set_option maxHeartbeats 1000000 in
theorem delitem_ct (ok : c.Ok) (I : St c fs ld s) (hA : AOk (n + 3) A) (D : Deals ld Hd Dd dd Ll dit de g Td vd) {nm : Str} (hnm : OkS nm) {t : Tok}
    (h : ∀ ld' dit' de' Td' vd' s', (∀ p ∈ ld, p.1 ≠ Ll → p ∈ ld') → Deals ld' Hd Dd dd Ll dit' de' (delS g nm) Td' vd' → St c fs ld' s' → Q .none s') :
    wpAny c.MD A (call (.ref 203) [.ref Hd, .str nm t] []) Q NoE s := by
  refine callC (args := ⟨_, _⟩) I hA (kg ok rfl rfl) ⟨_, _, _, _, rfl, kg ok rfl rfl, rfl, rfl⟩ rfl (BindsTo.of_eq rfl) rfl (kinds fun _ => rfl) ?_ rfl rfl rfl rfl rfl ?_
  · intro L p hp
    have hp' : p ∈ [(("name" : Str), L + 1)] := hp
    simp only [List.mem_cons, List.not_mem_nil, or_false] at hp'
    rcases hp' with rfl; rfl
  intro L s' env ldc htk N hcells hldc hcell I' hA'
  replace hcells : env.cells = [(("name" : Str), L + 1)] := hcells
  obtain ⟨oN, mN, dN⟩ := hcell "name" (L + 1) rfl
  replace dN : oN.data = .cell (some (.str nm t)) := dN
  replace hldc : ldc.map (·.1) = [L + 1] := hldc
  obtain ⟨p0, rfl, hp0⟩ := List.map_eq_singleton_iff.mp hldc
  obtain rfl := List.mem_singleton.mp mN
  clear hcell hldc
  replace ⟨m0, hm0, I'⟩ : ∃ m0 : Str → Option Value, m0 "self" = some (.ref Hd) ∧ St c ((L, m0) :: fs) ((L + 1, oN) :: ld) s' := ⟨_, rfl, I'⟩
  have D1 : Deals ((L + 1, oN) :: ld) Hd Dd dd Ll dit de g Td vd := D.mono fun p hp => .tail _ hp
  repeat (walk_at "st")
  refine MethodCallKw ?_
  repeat (walk_at "st")
  refine method_f2 I'.kx (D1.inst I') fh_ga PySem.F.canon_object_ga fh_gt fh_conv (by kernel_rfl) (D.dd.sh rfl) ?_
  refine rCallKw (kg ok rfl rfl) ?_
  repeat (walk_at "st")
  refine MethodCall_ ?_
  refine rCell I' N hcells (.head _) dN ?_
  refine GM.lower ?_
  refine callWith_method0 ?_
  refine SCL.lower (by rw [okS_len hnm]; decide) ?_
  intro _
  replace I' := I'.tok (tk := s'.toks + 1)
  repeat (walk_at "st")
  refine ⟨⟨_, _, I'⟩, ?_⟩
  refine convert_ct (n := n) ok I' (hA'.mono (by omega)) (lower_ok hnm) true ?_ Hd
  clear I'
  intro s1 I1
  refine rStoreC I1 N hcells dN ?_
  intro s2 oN2 dN2 I2
  have D2 : Deals ((L + 1, oN2) :: ld) Hd Dd dd Ll dit de g Td vd := D.mono fun p hp => .tail _ hp
  clear I1 D1 dN mN
  repeat (walk_at "st")
  refine wpAny_Assign_Subscript ?_
  let ff : Str × Str → Bool := fun p => !(Txt.lower p.1 == Txt.lower nm)
  have hlenA : ∀ i ys, (∃ Ts' vals', Holds ((L + 1, oN2) :: ld) ys ((g.take i).filter ff) Ts' vals') → ys.size ≤ 100 := by
    rintro i ys ⟨Ts', vals', H⟩
    rw [H.size]
    refine Nat.le_trans (List.length_filter_le _ _) ?_
    rw [List.length_take]
    exact Nat.le_trans (Nat.min_le_right _ _) D.len
  refine rCompL dit (fun i ys => ∃ Ts' vals', Holds ((L + 1, oN2) :: ld) ys ((g.take i).filter ff) Ts' vals') (cl := [("name", L + 1)]) (sc' := delSc) hA'.hh N ?_ ?_ (by decide) rfl (by decide) (fun _ => rfl) (fun i ys h => Nat.lt_of_le_of_lt (hlenA i ys h) (by decide)) ⟨fun _ => 0, fun _ => #[], ⟨rfl, fun j hj => absurd hj (by simp), fun j hj => absurd hj (by simp), fun j p hj => by simp at hj⟩⟩ (.inl ⟨_, _, rfl⟩) ?_
  · unfold closureFor cellOf
    rw [hcells]; rfl
  · unfold relabel Env.kindOf
    rw [N.sc]; rfl
  refine Attribute_Name_ ?_
  repeat (walk_at "st")
  refine get_value I2.kx (D2.inst I2) fh_ga (findObj_own (attr := none) (by kernel_rfl) (by kernel_rfl) rfl D.dd.1) rfl ?_
  refine ⟨Ll, de, _, _, rfl, D2.ls, I2.tok, ?_, ?_⟩
  · intro C acc Ia cenv N' hc' i v m ys oI e5 s5 hv hAcc S
    obtain ⟨hi, e1⟩ := Array.getElem?_eq_some_iff.mp hv
    have e2 := D.hs.item i hi
    rw [hv] at e2
    cases Option.some.inj e2
    obtain ⟨p, hp⟩ : ∃ p, g[i]? = some p := ⟨_, List.getElem?_eq_getElem (D.hs.size ▸ hi : i < g.length)⟩
    obtain ⟨t1, u1, ev⟩ := D.hs.val i p hp
    have hob := D2.hs.obj i hi
    rw [ev] at hob
    have okp := D.ok p (List.mem_of_getElem? hp)
    refine wpAny_assign_Name (rStore S N' rfl rfl fun s6 I6 => ?_)
    clear S
    refine rTests1 ?_
    repeat (walk_at "st")
    refine MethodCall_ ?_
    refine Subscript_ ?_
    repeat (walk_at "st")
    rename_i t7 s7 I7
    refine item_tuple (items := #[.str p.1 t1, .str p.2 u1]) (j := 0) ⟨_, I7.ob _ (.tail _ (.tail _ hob)), rfl, _, rfl⟩ (by decide) (by decide) rfl rfl ?_
    refine GM.lower ?_
    refine callWith_method0 ?_
    refine SCL.lower (by rw [okS_len okp.1]; decide) ?_
    intro _
    replace I7 := I7.tok (tk := s7.toks + 1)
    repeat (walk_at "st")
    refine rCell I7 N' hc' (.tail _ (.tail _ (.head _))) dN2 ?_
    refine ne_str ?_
    refine wpAny_truthy_bool ?_
    obtain ⟨Ts', vals', H⟩ := hAcc
    have htk : (g.take (i + 1)).filter ff = (g.take i).filter ff ++ (if ff p = true then [p] else []) := by
      rw [List.take_add_one, hp, List.filter_append]
      cases hfp : ff p <;> simp [hfp]
    have hbne : (Txt.lower p.1 != Txt.lower nm) = ff p := rfl
    rw [hbne]
    cases hfp : ff p
    · rw [if_neg (by decide)]
      refine ⟨_, I7, Ts', vals', ?_⟩
      rw [htk, hfp]; simpa using H
    · rw [if_pos rfl]
      repeat (walk_at "st")
      obtain ⟨Ts2, vals2, H2⟩ := H.snoc hob
      refine ⟨_, I7, Ts2, vals2, ?_⟩
      rw [htk, hfp]; exact H2
  · rintro Nl ys e5 s5 ⟨Ts', vals', H⟩ I5
    have hys := hlenA _ ys ⟨Ts', vals', H⟩
    have D5 : Deals ((Nl, listO ys e5) :: (L + 1, oN2) :: ld) Hd Dd dd Ll dit de g Td vd := D2.mono fun p hp => .tail _ hp
    repeat (walk_at "st")
    refine Attribute_Name_ ?_
    repeat (walk_at "st")
    refine get_value I5.kx (D5.inst I5) fh_ga (findObj_own (attr := none) (by kernel_rfl) (by kernel_rfl) rfl D.dd.1) rfl ?_
    refine wpAny_Slice ?_
    rw [evalPart_none]
    refine wpAny_pure (wpAny_pure (wpAny_pure ?_))
    have I6 := I5.same (tk := s5.toks + 1) (h' := s5.heap.push (sliceO .none .none .none)) fun b o e => Heap.get?_push_of_some _ e
    obtain ⟨l₁, l₂, hld, I7, hm⟩ := D5.swap I6
    refine rSetAll I7 (hm _ (.head _) (I5.headNe (.tail _ D.ls))) (Heap.get?_push_size _ rfl) (Nat.le_trans D.sz (by decide)) (Nat.le_trans hys (by decide)) ?_
    intro s8 e8 I8
    repeat (walk_at "st")
    have hmt : ∀ p ∈ ld, p.1 ≠ Ll → p ∈ (Ll, listO ys e8) :: (l₁ ++ l₂) := fun p hp hne => .tail _ (hm p (.tail _ (.tail _ hp)) hne)
    rw [D.hs.size, List.take_length] at H
    exact h _ ys e8 Ts' vals' s8 hmt (D.made hmt (H.monoT fun p hp hv => .tail _ (hm p (.tail _ hp) (D2.neT I2 hp hv))) (fun p hp => D.ok p (delS_sub hp)) (Nat.le_trans (List.length_filter_le _ _) D.len) (.head _) (D.ne I) (D.neH I)) I8.dropFr
end

/-! part F26 -/
section
variable {c : Cx} {fs fs' : Fs} {ld ld' : Ld} {s : Shared} {A : Around} {env : Env} {L : Addr} {m : Str → Option Value} {sc : Scope} {cd : Value}
variable {n : Nat} {Q : Value → Shared → Prop}
variable {Hd Dd : Addr} {dd : Obj} {Ll : Addr} {dit : Array Value} {de : Nat} {g : List (Str × Str)} {Td : Nat → Addr} {vd : Nat → Array Value}

theorem rDelItemO {v : Value} {Q : Unit → Shared → Prop} (I : St c fs ld s) (D : Deals ld Hd Dd dd Ll dit de g Td vd) (h : wpAny c.MD A (call (.ref 203) [.ref Hd, v]) (fun _ => Q ()) NoE s) : wpAny c.MD A (delItem (.ref Hd) v) Q NoE s := by
  have J := D.inst I
  unfold delItem sequenceKey
  refine wpAny_holding (wpAny_bind (wpAny_bind (J.type.here ?_)))
  refine wpAny_bind ((anyM_none I.kx (C := 285) (by kernel_rfl)).here ?_)
  rw [if_pos (show (!false) = true from rfl)]
  exact wpAny_pure (wpAny_bind (special_fn I.kx J (f := 203) (by kernel_rfl) (by kernel_rfl) (wpAny_mono h (fun _ _ z => wpAny_pure z) fun _ _ z => z)))
theorem rSetItemO {v w : Value} {Q : Unit → Shared → Prop} (I : St c fs ld s) (D : Deals ld Hd Dd dd Ll dit de g Td vd) (h : wpAny c.MD A (call (.ref 198) [.ref Hd, v, w]) (fun _ => Q ()) NoE s) : wpAny c.MD A (setItem (.ref Hd) v w) Q NoE s := by
  have J := D.inst I
  unfold setItem sequenceKey
  refine wpAny_holding (wpAny_bind (wpAny_bind (J.type.here ?_)))
  refine wpAny_bind ((anyM_none I.kx (C := 285) (by kernel_rfl)).here ?_)
  rw [if_pos (show (!false) = true from rfl)]
  exact wpAny_pure (wpAny_bind (special_fn I.kx J (f := 198) (by kernel_rfl) (by kernel_rfl) (wpAny_mono h (fun _ _ z => wpAny_pure z) fun _ _ z => z)))

def setS (g : List (Str × Str)) (nm v : Str) : List (Str × Str) := delS g nm ++ [(nm, v)]

set_option maxHeartbeats 1000000 in
theorem setitem_ct (ok : c.Ok) (I : St c fs ld s) (hA : AOk (n + 4) A) (D : Deals ld Hd Dd dd Ll dit de g Td vd) (hlen : g.length ≤ 90) {nm v : Str} (hnm : OkS nm) (hv : OkS v) {t u : Tok}
    (h : ∀ ld' dit' de' Td' vd' s', (∀ p ∈ ld, p.1 ≠ Ll → p ∈ ld') → Deals ld' Hd Dd dd Ll dit' de' (setS g nm v) Td' vd' → St c fs ld' s' → Q .none s') :
    wpAny c.MD A (call (.ref 198) [.ref Hd, .str nm t, .str v u] []) Q NoE s := by
  refine callF (args := ⟨_, _⟩) I hA (kg ok rfl rfl) ⟨_, _, _, _, rfl, kg ok rfl rfl, rfl, rfl⟩ rfl (BindsTo.of_eq rfl) (by decide) (locs rfl) rfl rfl rfl rfl rfl ?_
  intro L s' env N hcells I' hA'
  clear hcells
  replace ⟨m0, hm0, hm1, hm2, I'⟩ : ∃ m0 : Str → Option Value, m0 "self" = some (.ref Hd) ∧ m0 "name" = some (.str nm t) ∧ m0 "val" = some (.str v u) ∧ St c ((L, m0) :: fs) ld s' := ⟨_, rfl, rfl, rfl, I'⟩
  repeat (walk_at "st")
  refine wpAny_Delete (wpAny_deleteEach_cons (wpAny_delete_Subscript ?_))
  repeat (walk_at "st")
  refine rDelItemO I' D ?_
  refine delitem_ct (n := n) ok I' hA' D hnm ?_
  intro ld1 dit1 de1 Td1 vd1 s1 hm D1 I1
  refine wpAny_deleteEach_nil ?_
  repeat (walk_at "st")
  refine rExpr (by assumption) rfl rfl ?_
  refine MethodCall_ ?_
  refine Attribute_Name_ ?_
  repeat (walk_at "st")
  refine get_value I1.kx (D1.inst I1) fh_ga (findObj_own (attr := none) (by kernel_rfl) (by kernel_rfl) rfl D1.dd.1) rfl ?_
  replace I1 := I1.tok (tk := s1.toks + 1)
  refine getMethod_list_append (I1.ob _ D1.ls) rfl rfl ?_
  refine callWith_method1 ?_
  repeat (walk_at "st")
  refine MethodCallKw ?_
  repeat (walk_at "st")
  refine method_f2 I1.kx (D1.inst I1) fh_ga PySem.F.canon_object_ga fh_gt fh_conv (by kernel_rfl) (D1.dd.sh rfl) ?_
  refine rCallKw (kg ok rfl rfl) ?_
  repeat (walk_at "st")
  refine ⟨⟨_, _, I1⟩, ?_⟩
  refine convert_ct (n := n) ok I1 (hA'.mono (by omega)) hnm true ?_ Hd
  clear I1
  intro s2 I2
  repeat (walk_at "st")
  refine MethodCallKw ?_
  repeat (walk_at "st")
  refine method_f2 I2.kx (D1.inst I2) fh_ga PySem.F.canon_object_ga fh_gt fh_conv (by kernel_rfl) (D1.dd.sh rfl) ?_
  refine rCallKw (kg ok rfl rfl) ?_
  repeat (walk_at "st")
  refine ⟨⟨_, _, I2⟩, ?_⟩
  refine convert_ct (n := n) ok I2 (hA'.mono (by omega)) hv false ?_ Hd
  clear I2
  intro s3 I3
  repeat (walk_at "st")
  refine ⟨_, _, by assumption, Nat.le_of_ble_eq_true rfl, ?_⟩
  intro T s4 I4
  repeat (walk_at "st")
  have D4 : Deals ((T, tup #[.str nm t, .str v u]) :: ld1) Hd Dd dd Ll dit1 de1 (delS g nm) Td1 vd1 := D1.mono fun p hp => .tail _ hp
  obtain ⟨l₁, l₂, hld, I5, hm5⟩ := D4.swap I4
  have hdl : (delS g nm).length ≤ 90 := Nat.le_trans (List.length_filter_le _ _) hlen
  refine rAppendL I5 (by rw [D1.hs.size]; omega) ?_
  intro s6 e6 I6
  repeat (walk_at "st")
  have hmt : ∀ p ∈ (T, tup #[.str nm t, .str v u]) :: ld1, p.1 ≠ Ll → p ∈ (Ll, listO (dit1.push (.ref T)) e6) :: (l₁ ++ l₂) := fun p hp hne => .tail _ (hm5 p hp hne)
  obtain ⟨Ts2, vals2, H2⟩ := D4.hs.snoc (.head _)
  refine h _ _ e6 Ts2 vals2 s6 (fun p hp hne => hmt p (.tail _ (hm p hp hne)) hne) (D4.made hmt (H2.monoT fun p hp hv => hmt p hp (D4.neT I4 hp hv)) ?_ ?_ (.head _) (D4.ne I4) (D4.neH I4)) I6.dropFr
  · intro p hp
    rcases List.mem_append.mp hp with h | h
    · exact D1.ok p h
    · rw [List.mem_singleton.mp h]; exact ⟨hnm, hv⟩
  · show (delS g nm ++ [(nm, v)]).length ≤ 100
    rw [List.length_append]; simp only [List.length_cons, List.length_nil]; omega
end

/-! part F27 -/
section
variable {c : Cx} {fs fs' : Fs} {ld ld' : Ld} {s : Shared} {A : Around} {env : Env} {L : Addr} {m : Str → Option Value} {sc : Scope} {cd : Value}
variable {n : Nat} {Q : Value → Shared → Prop}
variable {Hd Dd : Addr} {dd : Obj} {Ll : Addr} {dit : Array Value} {de : Nat} {g : List (Str × Str)} {Td : Nat → Addr} {vd : Nat → Array Value}

theorem get_ct0 (ok : c.Ok) (I : St c fs ld s) (hA : AOk (n + 2) A) (D : Deals ld Hd Dd dd Ll dit de g Td vd) {q : Str} (hq : OkS q) {t : Tok}
    (h1 : ∀ p t s', g.find? (fun p => Txt.lower p.1 == Txt.lower q) = some p → St c fs ld s' → Q (.str p.2 t) s') (h2 : g.find? (fun p => Txt.lower p.1 == Txt.lower q) = none → ∀ s', St c fs ld s' → Q .none s') :
    wpAny c.MD A (call (.ref 232) [.ref Hd, .str q t] []) Q NoE s := by
  refine callF (args := ⟨[.ref Hd, .str q t], []⟩) I hA (kg ok rfl rfl) ⟨_, _, _, _, rfl, kg ok rfl rfl, rfl, rfl⟩ rfl (BindsTo.of_defaults (o := ⟨.type "tuple", none, .seq #[.none] 0, #[]⟩) rfl (I.base _ _ (kg ok rfl rfl)) rfl rfl rfl) (by decide) (locs rfl) rfl rfl rfl rfl rfl ?_
  intro L s' env N hcells I' hA'
  clear hcells
  repeat (walk_at "st")
  refine MethodCallKw ?_
  repeat (walk_at "st")
  refine method_f2 (St.kx (by assumption)) (D.inst (by assumption)) fh_ga PySem.F.canon_object_ga fh_gt fh_conv (by kernel_rfl) (D.dd.sh rfl) ?_
  refine rCallKw (kg ok rfl rfl) ?_
  repeat (walk_at "st")
  refine MethodCall_ ?_
  repeat (walk_at "st")
  refine GM.lower ?_
  refine callWith_method0 ?_
  refine SCL.lower (by rw [okS_len hq]; decide) ?_
  intro _
  replace I' := I'.tok (tk := s'.toks + 1)
  repeat (walk_at "st")
  refine ⟨⟨_, _, I'⟩, ?_⟩
  refine convert_ct ok I' hA' (lower_ok hq) true ?_ Hd
  clear I'
  intro s1 I1
  repeat (walk_at "st")
  refine rForList (L := L) (fs := fs) hA'.hh (fun i m' => m' "self" = some (.ref Hd) ∧ m' "name" = some (.str (Txt.lower q) s'.toks) ∧ m' "default" = some .none ∧ ∀ j p, j < i → g[j]? = some p → (Txt.lower p.1 == Txt.lower q) = false) (.inr ⟨⟨_, _, _, rfl⟩, ?_⟩) D.ls (fun _ => rfl) ?_ ?_ ?_
  · intro i v hv
    obtain ⟨hi, rfl⟩ := Array.getElem?_eq_some_iff.mp hv
    have := D.hs.item i hi
    rw [hv] at this
    exact ⟨_, Option.some.inj this⟩
  · refine Attribute_Name_ ?_
    repeat (walk_at "st")
    refine get_value (St.kx (by assumption)) (D.inst (by assumption)) fh_ga (findObj_own (attr := none) (by kernel_rfl) (by kernel_rfl) rfl D.dd.1) rfl ⟨rfl, _, St.tok (by assumption), ?_⟩
    refine ⟨by walk_at "lk", by walk_at "lk", by walk_at "lk", fun j p hj => by omega⟩
  · rintro i v m Ia oI s3 hv ⟨hm1, hm2, hm3, hj⟩ I3
    obtain ⟨hi, e1⟩ := Array.getElem?_eq_some_iff.mp hv
    have e2 := D.hs.item i hi
    rw [hv] at e2
    cases Option.some.inj e2
    obtain ⟨p, hp⟩ : ∃ p, g[i]? = some p := ⟨_, List.getElem?_eq_getElem (D.hs.size ▸ hi : i < g.length)⟩
    obtain ⟨t1, u1, ev⟩ := D.hs.val i p hp
    have hob := D.hs.obj i hi
    rw [ev] at hob
    have okp := D.ok p (List.mem_of_getElem? hp)
    refine rAssign2 hA'.hh I3 N rfl rfl rfl (.tail _ hob) ?_
    intro s4 I4
    repeat (walk_at "st")
    refine MethodCall_ ?_
    repeat (walk_at "st")
    refine GM.lower ?_
    refine callWith_method0 ?_
    refine SCL.lower (by rw [okS_len okp.1]; decide) ?_
    intro _
    replace I4 := I4.tok (tk := s4.toks + 1)
    repeat (walk_at "st")
    refine eq_str ?_
    refine wpAny_truthy_bool ?_
    cases hb : Txt.lower p.1 == Txt.lower q
    · rw [if_neg (by decide)]
      repeat (walk_at "st")
      refine ⟨_, ?_, I4⟩
      refine ⟨by walk_at "lk", by walk_at "lk", by walk_at "lk", fun j p' hj' hp' => ?_⟩
      rcases Nat.lt_succ_iff_lt_or_eq.mp hj' with h | rfl
      · exact hj j p' h hp'
      · rw [hp] at hp'
        cases hp'
        exact hb
    · rw [if_pos rfl]
      repeat (walk_at "st")
      exact h1 p _ _ (find_first hp hb hj) (I4.drop.dropFr)
  · rintro m3 s3 ⟨hm1, hm2, hm3, hj⟩ I3
    repeat (walk_at "st")
    refine h2 (find_not fun j p hj' hp => hj j p (by rw [D.hs.size]; exact hj') hp) _ I3.dropFr

theorem fh_get : findIn c.K (.ref 285) "get" = some (some (.ref 232)) := by kernel_rfl

theorem chL_get : ∀ (ch : List (Nat × Nat)) (j : Nat) (p : Nat × Nat), ch[j]? = some p → (chL ch)[2 * j]? = some p.1 ∧ (chL ch)[2 * j + 1]? = some p.2
  | [], j, p, h => by cases h
  | a :: r, 0, p, h => by cases h; exact ⟨rfl, rfl⟩
  | a :: r, j + 1, p, h => by
    have h' : r[j]? = some p := h
    obtain ⟨h1, h2⟩ := chL_get r j p h'
    have e : chL (a :: r) = a.1 :: a.2 :: chL r := rfl
    rw [e, show 2 * (j + 1) = 2 * j + 2 from by omega]
    exact ⟨h1, h2⟩
theorem chL_len : ∀ ch : List (Nat × Nat), (chL ch).length = 2 * ch.length
  | [] => rfl
  | a :: r => by
    have e : chL (a :: r) = a.1 :: a.2 :: chL r := rfl
    rw [e, List.length_cons, List.length_cons, chL_len r, List.length_cons]; omega
theorem chW_len (ch : List (Nat × Nat)) : (chW ch).length = 2 * ch.length := by
  show (chW ch).cps.size = _
  rw [← Array.length_toList, chW_cps, chL_len]
theorem item_at {x : Str} {i n : Nat} (h : x.cps.toList[i]? = some n) : Txt.item x (i : Int) = L1 n := by
  have hi : i < x.length := by
    have := (List.getElem?_eq_some_iff.mp h).1
    rwa [Array.length_toList] at this
  have e : Txt.charAt x (i : Int) = some n := by
    unfold Txt.charAt
    have hs : seqIndex? (i : Int) x.length = some i := by
      unfold seqIndex?
      simp; omega
    rw [hs, Option.bind_some]
    rwa [Array.getElem?_toList] at h
  unfold Txt.item
  rw [e]; rfl
theorem item_last {x : Str} {n : Nat} (h : x.cps.toList.getLast? = some n) : Txt.item x (-1) = L1 n := by
  have hl : 0 < x.length := by
    show 0 < x.cps.size
    rw [← Array.length_toList]
    cases hx : x.cps.toList with
    | nil => rw [hx] at h; cases h
    | cons a r => simp
  have e : Txt.charAt x (-1) = some n := by
    unfold Txt.charAt
    rw [seqIndex_neg (by omega) (by omega), Option.bind_some]
    rw [List.getLast?_eq_getElem?, Array.length_toList, Array.getElem?_toList] at h
    rw [← h]
    congr 1
    show ((x.cps.size : Int) + -1).toNat = x.cps.size - 1
    have : x.length = x.cps.size := rfl
    omega
  unfold Txt.item
  rw [e]; rfl
theorem upper_eq {n : Nat} (hn : n ∈ ltrs) : Txt.upper (L1 n) = L1 (n - 32) := by
  simp only [ltrs, List.mem_cons, List.not_mem_nil, or_false] at hn
  rcases hn with rfl | rfl | rfl | rfl | rfl | rfl | rfl <;> kernel_rfl
theorem up_ok {n : Nat} (hn : n ∈ ltrs) : OkS (L1 (n - 32)) := ⟨n - 32, by revert hn; revert n; decide, rfl⟩

/-- the chains' strs -/
def StrsL (l : List (List (Nat × Nat))) (ys : Array Value) : Prop := ys.size = l.length ∧ ∀ (j : Nat) (ch : List (Nat × Nat)), l[j]? = some ch → ∃ t, ys[j]? = some (.str (chW ch) t)
theorem StrsL.push {l : List (List (Nat × Nat))} {ys : Array Value} {ch : List (Nat × Nat)} {t : Tok} (H : StrsL l ys) : StrsL (l ++ [ch]) (ys.push (.str (chW ch) t)) := by
  refine ⟨by rw [Array.size_push, List.length_append, H.1]; rfl, fun j ch' h => ?_⟩
  rw [List.getElem?_append] at h
  split at h
  · rename_i hj
    rw [← H.1] at hj
    obtain ⟨t', h'⟩ := H.2 j ch' h
    exact ⟨t', by rw [Array.getElem?_push_lt hj, ← Array.getElem?_eq_getElem hj]; exact h'⟩
  · rename_i hj
    have : j - l.length = 0 := by
      rcases Nat.eq_zero_or_pos (j - l.length) with h0 | h0
      · exact h0
      · rw [List.getElem?_eq_none (by simp only [List.length_cons, List.length_nil]; omega)] at h; cases h
    have e : j = ys.size := by rw [H.1]; omega
    rw [this] at h
    cases h
    subst e
    exact ⟨t, by simp⟩

/-- the first of the best chains -/
def bestsOf (F : List (Int × List (Nat × Nat))) (M : Int) : List (List (Nat × Nat)) := (F.filter fun p => p.1 == M).map (·.2)
def turnS (g : List (Str × Str)) (p : Nat × Nat) : List (Str × Str) := setS (setS g (L1 (p.1 - 32)) (L1 p.2)) (L1 (p.2 - 32)) (L1 p.1)
def settleS (g : List (Str × Str)) (mu : Nat → Nat) (ch : List (Nat × Nat)) : List (Str × Str) := match ch.getLast? with
  | none => g
  | some p => ch.foldl turnS (delS g (L1 (mu p.2)))
theorem setS_len (g : List (Str × Str)) (a b : Str) : (setS g a b).length ≤ g.length + 1 := by
  show (delS g a ++ [(a, b)]).length ≤ _
  rw [List.length_append]
  exact Nat.add_le_add_right (List.length_filter_le _ _) 1
theorem turnS_len (g : List (Str × Str)) (p : Nat × Nat) : (turnS g p).length ≤ g.length + 2 :=
  Nat.le_trans (setS_len _ _ _) (Nat.succ_le_succ (setS_len _ _ _))
theorem fold_len : ∀ (ch : List (Nat × Nat)) (g : List (Str × Str)), (ch.foldl turnS g).length ≤ g.length + 2 * ch.length
  | [], g => Nat.le_refl _
  | p :: r, g => by
    rw [List.foldl_cons, List.length_cons]
    have h1 := fold_len r (turnS g p)
    have h2 := turnS_len g p
    omega

theorem size2 : ∀ k, k ≤ 8 → Builtin.Range.rangeSize 0 ((2 * k : Nat) : Int) 2 = k ∧ Builtin.Range.small 0 ((2 * k : Nat) : Int) 2 = true := by decide +kernel
theorem chW_nil : (chW [] != Str.ofString "") = false := by kernel_rfl
theorem chW_cons (a : Nat × Nat) (r : List (Nat × Nat)) : (chW (a :: r) != Str.ofString "") = true := by
  show (!(chW (a :: r) == Str.ofString "")) = true
  rw [str_beq, chW_cps, show (Str.ofString "").cps.toList = [] from by kernel_rfl]; rfl
theorem chL_last : ∀ {ch : List (Nat × Nat)} {p : Nat × Nat}, ch.getLast? = some p → (chL ch).getLast? = some p.2
  | [], p, h => by cases h
  | [a], p, h => by cases h; rfl
  | a :: b :: r, p, h => by
    have h' : (b :: r).getLast? = some p := by rw [List.getLast?_cons_cons] at h; exact h
    have ih := chL_last h'
    have e : chL (a :: b :: r) = a.1 :: a.2 :: chL (b :: r) := rfl
    have e2 : chL (b :: r) = b.1 :: b.2 :: chL r := rfl
    rw [e, e2, List.getLast?_cons_cons, List.getLast?_cons_cons, ← e2]
    exact ih

/-- what stands at the head is no part of the deals -/
theorem Deals.pull {Ia : Addr} {oI : Obj} (D : Deals ld Hd Dd dd Ll dit de g Td vd) (I : St c fs ld s) (hI : (Ia, oI) ∈ ld) (hcl : oI.cls = .type "range_iterator") (h1 : Ia ≠ Hd) (h2 : Ia ≠ Dd) (h3 : Ia ≠ Ll) :
    ∃ l, St c fs ((Ia, oI) :: l) s ∧ Deals l Hd Dd dd Ll dit de g Td vd ∧ (∀ p ∈ ld, p.1 ≠ Ia → p ∈ l) := by
  obtain ⟨l₁, l₂, e⟩ := List.append_of_mem hI
  have hm : ∀ p ∈ ld, p.1 ≠ Ia → p ∈ l₁ ++ l₂ := fun p hp hne => by
    rw [e] at hp
    rcases List.mem_append.mp hp with h | h
    · exact List.mem_append.mpr (.inl h)
    · rcases List.mem_cons.mp h with h | h
      · exact absurd (by rw [h]) hne
      · exact List.mem_append.mpr (.inr h)
  refine ⟨l₁ ++ l₂, ?_, ⟨hm _ D.ob (Ne.symm h1), hm _ D.dc (Ne.symm h2), D.dd, hm _ D.ls (Ne.symm h3), D.hs.monoT fun p hp hv => hm p hp ?_, D.ok, D.len⟩, hm⟩
  · rw [e] at I
    exact I.perm List.perm_middle.symm
  · obtain ⟨vs, hv⟩ := hv
    obtain ⟨a, o⟩ := p
    refine I.neO hp hI ?_
    rw [show o = tup vs from hv, hcl]
    show Value.type "tuple" ≠ Value.type "range_iterator"
    decide

theorem turn_take {ch : List (Nat × Nat)} {j : Nat} {p : Nat × Nat} (g : List (Str × Str)) (h : ch[j]? = some p) : (ch.take (j + 1)).foldl turnS g = turnS ((ch.take j).foldl turnS g) p := by
  rw [List.take_add_one, h, List.foldl_append]; rfl

variable {P : Addr} {es : Array DictEntry} {ep : Nat} {pr : Nat → Nat → Int} {mu : Nat → Nat} {th : List Nat}
def setSc : Scope := { kind := .function, names := [(".0", .local), ("gain", .local), ("chain", .local), ("most", .cell)], isGenerator := false, isCoroutine := false, more := [] }

set_option maxHeartbeats 2000000 in
theorem settled_ct (ok : c.Ok) (I : St c fs ld s) (hA : AOk (n + 15) A) (D : Deals ld Hd Dd dd Ll dit de g Td vd) (hM : Mu g mu) (hP : Price c ld P es ep pr) {x : Nat} (hx : x ∈ ltrs) (hth : ∀ q ∈ th, q ∈ ltrs) (hth6 : th.length ≤ 5) (hg50 : g.length ≤ 50)
    (hF : ∀ p ∈ chainsS mu pr (th ++ [x]) 6 [] x 0, p.2.length ≤ 8 ∧ ∀ q ∈ p.2, q.1 ∈ ltrs ∧ q.2 ∈ ltrs ∧ mu q.2 ≠ 45) {t1 t2 : Tok}
    (h : ∀ M ch r t ld' dit' de' Td' vd' s', M ∈ gainsOf (chainsS mu pr (th ++ [x]) 6 [] x 0) → (∀ a ∈ gainsOf (chainsS mu pr (th ++ [x]) 6 [] x 0), a ≤ M) → bestsOf (chainsS mu pr (th ++ [x]) 6 [] x 0) M = ch :: r →
      (∀ p ∈ ld, p.1 ≠ Ll → p ∈ ld') → Deals ld' Hd Dd dd Ll dit' de' (settleS g mu ch) Td' vd' → St c fs ld' s' → Q (.int M t) s') :
    wpAny c.MD A (call (.ref 318) [.ref P, .ref Hd, .str ⟨th.toArray⟩ t1, .str (L1 x) t2] []) Q NoE s := by
  refine callC (args := ⟨_, _⟩) I hA (kg ok rfl rfl) ⟨_, _, _, _, rfl, kg ok rfl rfl, rfl, rfl⟩ rfl (BindsTo.of_eq rfl) rfl (kinds fun _ => rfl) ?_ rfl rfl rfl rfl rfl ?_
  · intro L p hp
    have hp' : p ∈ [(("most" : Str), L + 1)] := hp
    simp only [List.mem_cons, List.not_mem_nil, or_false] at hp'
    rcases hp' with rfl; rfl
  intro L s' env ldc htk N hcells hldc hcell I' hA'
  replace hcells : env.cells = [(("most" : Str), L + 1)] := hcells
  obtain ⟨oN, mN, dN⟩ := hcell "most" (L + 1) rfl
  replace dN : oN.data = .cell none := dN
  replace hldc : ldc.map (·.1) = [L + 1] := hldc
  obtain ⟨p0, rfl, hp0⟩ := List.map_eq_singleton_iff.mp hldc
  obtain rfl := List.mem_singleton.mp mN
  clear hcell hldc hp0 htk
  replace ⟨m0, hm1, hm2, hm3, hm4, I'⟩ : ∃ m0 : Str → Option Value, m0 "price" = some (.ref P) ∧ m0 "deals" = some (.ref Hd) ∧ m0 "there" = some (.str ⟨th.toArray⟩ t1) ∧ m0 "x" = some (.str (L1 x) t2) ∧ St c ((L, m0) :: fs) ((L + 1, oN) :: ld) s' := ⟨_, rfl, rfl, rfl, rfl, I'⟩
  repeat (walk_at "st")
  refine rCallRef (kg ok rfl rfl) ?_
  repeat (walk_at "st")
  refine PyProof.Rows.add_str ?_ (by have h : (⟨th.toArray⟩ : Str).length = th.length := by show th.toArray.size = _; simp
                                     rw [h]; show th.length + 1 ≤ sizeLine; exact Nat.le_trans (by omega : th.length + 1 ≤ 6) (by decide))
  intro t3 k3
  replace I' := I'.tok (tk := k3)
  repeat (walk_at "st")
  refine callWith_K0 (St.kx (by assumption)) (by kernel_rfl) ?_
  refine make_ct (n := n) ok (by assumption) (hA'.mono (by omega)) ?_
  intro Lp Dp od e s1 hpd I1
  repeat (walk_at "st")
  refine ⟨⟨_, _, by assumption⟩, ?_⟩
  rename_i t4 s2 I2
  rw [show (⟨th.toArray⟩ : Str) ++ L1 x = ⟨(th ++ [x]).toArray⟩ from by show (⟨th.toArray ++ #[x]⟩ : Str) = _; simp]
  have hsub : ∀ p ∈ ld, p ∈ (Dp, od) :: (L + 1, oN) :: ld := fun p hp => .tail _ (.tail _ hp)
  have hthx : ∀ q ∈ th ++ [x], q ∈ ltrs := by
    intro q hq
    rcases List.mem_append.mp hq with h | h
    · exact hth q h
    · rw [List.mem_singleton.mp h]; exact hx
  have hlen : (th ++ [x]).length ≤ 6 := by rw [List.length_append]; simp only [List.length_cons, List.length_nil]; omega
  refine chains_ct ok hthx hlen 6 _ _ _ _ _ _ _ _ _ _ (fun _ => 0) (fun _ => #[]) _ _ _ _ _ _ _ _ _ _ _ _ pr mu [] x 0 _ _ _ I2 (hA'.mono (by omega)) (.head _) hpd ⟨rfl, fun j hj => absurd hj (by simp), fun j hj => absurd hj (by simp), fun j p hj => by cases hj⟩ (D.mono hsub) hM (hP.mono hsub) hx (by decide) (by decide) (Nat.le_trans (List.length_filter_le _ _) hlen) ?_
  intro s3 e3 Fa fit ef new I3 hFd
  clear I1 I2 I'
  have hlen2 : (gainsOf (chainsS mu pr (th ++ [x]) 6 [] x 0)).length ≤ 55987 := by
    rw [List.length_map]; exact Nat.le_trans (chains_len mu pr hlen 6 [] x 0) (by decide)
  have hcons : ∃ a r, chainsS mu pr (th ++ [x]) 6 [] x 0 = a :: r := ⟨_, _, chainsS_eq ..⟩
  generalize chainsS mu pr (th ++ [x]) 6 [] x 0 = F at *
  have pm := (List.perm_middle (l₁ := (Fa, listO fit ef) :: new) (a := (L + 1, oN)) (l₂ := ld)).symm
  simp only [List.cons_append] at pm
  replace I3 := (I3.subl (List.Sublist.cons _ (List.Sublist.cons_cons _ (List.Sublist.append (List.Sublist.refl new) (List.Sublist.cons _ (List.Sublist.refl _)))))).perm pm
  repeat (walk_at "st")
  refine rCallM (by intro a; exact nofun) ?_
  repeat (walk_at "st")
  have hr : ∀ (i : Nat) (v : Value), fit[i]? = some v → ∃ T, v = .ref T := by
    intro i v hv
    obtain ⟨hi, rfl⟩ := Array.getElem?_eq_some_iff.mp hv
    obtain ⟨T, t, u, a, b⟩ := hFd.item i _ (List.getElem?_eq_getElem (by rw [← hFd.size]; exact hi))
    rw [hv] at a
    exact ⟨T, Option.some.inj a⟩
  refine rCompL fit (Gains (gainsOf F)) hA'.hh (by assumption) (closureFor_none (by decide)) rfl (by decide) rfl (by decide) (fun _ => rfl) (fun _ _ h => h.2) ⟨.nil, by simp⟩ (.inr ⟨⟨_, _, _, rfl⟩, hr⟩) ?_
  repeat (walk_at "st")
  refine ⟨Fa, ef, _, _, rfl, .tail _ (.head _), by assumption, ?_, ?_⟩
  · intro C acc Ia cenv N' hc' i v m ys oI e5 s5 hv hG S
    clear hc'
    obtain ⟨hi, rfl⟩ := Array.getElem?_eq_some_iff.mp hv
    obtain ⟨T, t, u, a, b⟩ := hFd.item i _ (List.getElem?_eq_getElem (by rw [← hFd.size]; exact hi))
    rw [hv] at a
    rw [Option.some.inj a]
    refine rAssign2 hA'.hh S N' rfl rfl rfl (.tail _ (.tail _ (.tail _ (.tail _ (List.mem_append.mpr (.inl b)))))) ?_
    intro s6 I6
    refine rTests0 ?_
    rw [if_pos rfl]
    repeat (walk_at "st")
    refine ⟨_, by assumption, hG.push (by omega) ?_⟩
    rw [List.getElem?_map, List.getElem?_eq_getElem (by rw [← hFd.size]; exact hi)]
    rfl
  intro acc ys e5 s5 hG I5
  repeat (walk_at "st")
  have hG1 := hG.1
  rw [hFd.size, ← List.length_map (f := (·.1)), List.take_length] at hG1
  refine rMax hA'.hh I5 (.head _) hG1 (by obtain ⟨a, r, e⟩ := hcons; rw [List.length_map, e]; simp) ?_
  intro M tM s6 I6 hM1 hM2
  replace I6 := I6.drop
  refine rStoreC I6 N hcells dN ?_
  intro s7 oM dM I7
  clear I6 I5 I3 dN mN
  repeat (walk_at "st")
  refine Subscript_ ?_
  have hszB : ∀ i ys, StrsL (((F.take i).filter fun p => p.1 == M).map (·.2)) ys → ys.size < 100000 := by
    intro i ys H
    rw [H.1, List.length_map]
    refine Nat.lt_of_le_of_lt (List.length_filter_le _ _) ?_
    rw [List.length_take]
    have : F.length ≤ 55987 := by rw [← List.length_map (f := (·.1))]; exact hlen2
    omega
  refine rCompL fit (fun i ys => StrsL (((F.take i).filter fun p => p.1 == M).map (·.2)) ys) (cl := [("most", L + 1)]) (sc' := setSc) hA'.hh N ?_ ?_ (by decide) rfl (by decide) (fun _ => rfl) hszB ⟨rfl, fun j ch hj => by simp at hj⟩ (.inr ⟨⟨_, _, _, rfl⟩, hr⟩) ?_
  · unfold closureFor cellOf
    rw [hcells]; rfl
  · unfold relabel Env.kindOf
    rw [N.sc]; rfl
  repeat (walk_at "st")
  refine ⟨Fa, ef, _, _, rfl, .tail _ (.head _), by assumption, ?_, ?_⟩
  · intro C acc Ia cenv N' hc' i v m ys oI e5 s5 hv hG S
    obtain ⟨hi, rfl⟩ := Array.getElem?_eq_some_iff.mp hv
    have hi2 : i < F.length := by rw [← hFd.size]; exact hi
    obtain ⟨T, t, u, a, b⟩ := hFd.item i _ (List.getElem?_eq_getElem hi2)
    rw [hv] at a
    rw [Option.some.inj a]
    refine rAssign2 hA'.hh S N' rfl rfl rfl (.tail _ (.tail _ (.tail _ (.tail _ (List.mem_append.mpr (.inl b)))))) ?_
    intro s6 I6
    refine rTests1 ?_
    repeat (walk_at "st")
    refine rCell I6 N' hc' (.tail _ (.tail _ (.head _))) dM ?_
    refine eq_int ?_
    refine wpAny_truthy_bool ?_
    have htk : ((F.take (i + 1)).filter fun p => p.1 == M).map (·.2) = ((F.take i).filter fun p => p.1 == M).map (·.2) ++ (if (F[i].1 == M) = true then [F[i].2] else []) := by
      rw [List.take_add_one, List.getElem?_eq_getElem hi2, List.filter_append, List.map_append]
      cases hfp : F[i].1 == M <;> simp [hfp]
    cases hfp : F[i].1 == M
    · rw [if_neg (by decide)]
      refine ⟨_, I6, ?_⟩
      rw [htk, hfp]; simpa using hG
    · rw [if_pos rfl]
      repeat (walk_at "st")
      refine ⟨_, I6, ?_⟩
      rw [htk, hfp]; exact hG.push
  intro acc ys e5 s5 hG I5
  repeat (walk_at "st")
  obtain ⟨ch, rr, hB⟩ : ∃ ch rr, bestsOf F M = ch :: rr := by
    cases hb : bestsOf F M with
    | cons a r => exact ⟨a, r, rfl⟩
    | nil =>
      obtain ⟨p, hp, e⟩ := List.mem_map.mp hM1
      have : p.2 ∈ bestsOf F M := List.mem_map.mpr ⟨p, List.mem_filter.mpr ⟨hp, by simp [e]⟩, rfl⟩
      rw [hb] at this; cases this
  rw [hFd.size, List.take_length] at hG
  change StrsL (bestsOf F M) ys at hG
  rw [hB] at hG
  obtain ⟨tb, hy⟩ := hG.2 0 ch rfl
  have hchF : ∃ p ∈ F, p.2 = ch := by
    have : ch ∈ bestsOf F M := by rw [hB]; exact .head _
    obtain ⟨p, hp, e⟩ := List.mem_map.mp this
    exact ⟨p, (List.mem_filter.mp hp).1, e⟩
  obtain ⟨p1, hp1, rfl⟩ := hchF
  obtain ⟨hch8, hchq⟩ := hF p1 hp1
  generalize p1.2 = ch at *
  refine kba_turn (value' := .Name (Str.ofString "self") ⟨0, 0, 0, 0⟩) (by intro _; rfl) ?_
  rename_i t8 s8 I8
  refine rItemL (x := .str (chW ch) tb) I8 (.head _) rfl rfl (by decide) (by decide) hy ?_
  replace I8 := I8.drop
  repeat (walk_at "st")
  rename_i s9 I9 t10 s10 I10
  replace ⟨m1, hq1, hq2, I10⟩ : ∃ m1 : Str → Option Value, m1 "deals" = some (.ref Hd) ∧ m1 "best" = some (.str (chW ch) tb) ∧ St c ((L, m1) :: fs) ((L + 1, oM) :: (Fa, listO fit ef) :: (new ++ ld)) s10 := ⟨_, by walk_at "lk", by walk_at "lk", I10⟩
  clear I9 I8 I7 I5 hr hszB hG hy hFd hlen2 hcons
  refine ne_str ?_
  refine wpAny_truthy_bool ?_
  have hmB : ∀ p ∈ ld, p ∈ (L + 1, oM) :: (Fa, listO fit ef) :: (new ++ ld) := fun p hp => .tail _ (.tail _ (List.mem_append.mpr (.inr hp)))
  have DA := D.mono hmB
  have hL1 : L + 1 ≠ Ll := I10.headNe (.tail _ (List.mem_append.mpr (.inr D.ls)))
  cases hlast : ch.getLast? with
  | none =>
    obtain rfl : ch = [] := by
      cases ch with
      | nil => rfl
      | cons a r => simp at hlast
    rw [chW_nil, if_neg (by decide)]
    repeat (walk_at "st")
    refine rCell I10 N hcells (.head _) dM ?_
    exact h M [] rr tM ld dit de Td vd s10 hM1 hM2 hB (fun p hp _ => hp) D (I10.dropFr.subl (List.Sublist.cons _ (List.Sublist.cons _ (List.sublist_append_right _ _))))
  | some pl =>
    have hpl : pl ∈ ch := List.mem_of_getLast? hlast
    obtain ⟨a0, r0, rfl⟩ : ∃ a r, ch = a :: r := by
      cases ch with
      | nil => cases hpl
      | cons a r => exact ⟨a, r, rfl⟩
    rw [chW_cons, if_pos rfl]
    have hlW := chW_len (a0 :: r0)
    obtain ⟨hpl1, hpl2, hpl3⟩ := hchq pl hpl
    obtain ⟨hmuL, pp, hfind, hpp⟩ : mu pl.2 ∈ ltrs ∧ ∃ p, g.find? (fun p => Txt.lower p.1 == Txt.lower (L1 pl.2)) = some p ∧ p.2 = L1 (mu pl.2) := by
      rcases hM pl.2 hpl2 with ⟨h, _⟩ | ⟨h, _, h2⟩
      · exact absurd h hpl3
      · exact ⟨h, h2⟩
    repeat (walk_at "st")
    refine wpAny_Delete (wpAny_deleteEach_cons (wpAny_delete_Subscript ?_))
    repeat (walk_at "st")
    refine MethodCall_ ?_
    repeat (walk_at "st")
    refine method_f2 I10.kx (DA.inst I10) fh_ga PySem.F.canon_object_ga fh_gt fh_get (by kernel_rfl) (D.dd.sh rfl) ?_
    refine rCallRef (kg ok rfl rfl) ?_
    repeat (walk_at "st")
    refine Subscript_ ?_
    repeat (walk_at "st")
    refine UnaryOp_ ?_
    repeat (walk_at "st")
    refine neg_int ?_
    rename_i t11 s11 I11
    replace I11 := I11.tok (tk := s11.toks + 1)
    refine item_str (by decide) (by rw [hlW]; simp only [List.length_cons]; omega) (by rw [hlW]; simp only [List.length_cons]; omega) ?_
    intro _
    rw [item_last (by rw [chW_cps]; exact chL_last hlast)]
    replace I11 := I11.tok (tk := s11.toks + 1 + 1)
    repeat (walk_at "st")
    refine ⟨⟨_, _, I11⟩, ?_⟩
    refine get_ct0 (n := n) ok I11 (hA'.mono (by omega)) DA (ltr_ok hpl2) ?_ (fun h => by rw [hfind] at h; cases h)
    intro p12 t12 s12 hp12 I12
    rw [hfind] at hp12
    cases hp12
    rw [hpp]
    refine rDelItemO I12 DA ?_
    refine delitem_ct (n := n) ok I12 (hA'.mono (by omega)) DA (ltr_ok hmuL) ?_
    intro ld1 dit1 de1 Td1 vd1 s13 hm13 D13 I13
    refine wpAny_deleteEach_nil ?_
    clear I10 I11 I12
    repeat (walk_at "st")
    generalize hch : a0 :: r0 = ch at *
    let gg : Nat → List (Str × Str) := fun j => (ch.take j).foldl turnS (delS g (L1 (mu pl.2)))
    have hgg : ∀ j, (gg j).length ≤ 66 := fun j => by
      have h1 := fold_len (ch.take j) (delS g (L1 (mu pl.2)))
      have h2 : (delS g (L1 (mu pl.2))).length ≤ g.length := List.length_filter_le _ _
      have h3 : (ch.take j).length ≤ ch.length := by rw [List.length_take]; exact Nat.min_le_right _ _
      show ((ch.take j).foldl turnS (delS g (L1 (mu pl.2)))).length ≤ 66
      omega
    let inv : Nat → (Str → Option Value) → Ld → Prop := fun j m ld' => m "deals" = some (.ref Hd) ∧ m "best" = some (.str (chW ch) tb) ∧ (L + 1, oM) ∈ ld' ∧ (∀ p ∈ ld, p.1 ≠ Ll → p ∈ ld') ∧ ∃ dit' de' Td' vd', Deals ld' Hd Dd dd Ll dit' de' (gg j) Td' vd'
    refine rForRange (L := L) (fs := fs) (a := 0) (c' := 2) (n := ch.length) hA'.hh inv (fun _ => rfl) ?_ ?_ ?_
    · repeat (walk_at "st")
      refine rCallM (by intro a; exact nofun) ?_
      repeat (walk_at "st")
      refine rCallM (by intro a; exact nofun) ?_
      repeat (walk_at "st")
      refine len_str (by omega) ?_
      rename_i t14 s14 I14
      replace I14 := I14.tok (tk := s14.toks + 1 + 1)
      rw [hlW]
      repeat (walk_at "st")
      rename_i t15 s15 I15
      have hz := size2 ch.length hch8
      refine call_range_3 (by decide) ?_ (Or.inl (PyProof.noPylong_small (by omega)))
      exact ⟨_, _, _, _, _, _, _, rfl, Heap.get?_push_size _ rfl, hz.2, hz.1, I15.same (fun b o e => Heap.get?_push_of_some _ e), hq1, hq2, hm13 _ (.head _) hL1, fun p hp hne => hm13 p (hmB p hp) hne, dit1, de1, Td1, vd1, D13⟩
    · rintro j t14 m ld' Ia oI s14 hj hcl ⟨hd1, hd2, hd3, hd4, dit2, de2, Td2, vd2, D14⟩ I14
      obtain ⟨p, hp⟩ : ∃ p, ch[j]? = some p := ⟨_, List.getElem?_eq_getElem hj⟩
      obtain ⟨g1, g2⟩ := chL_get ch j p hp
      obtain ⟨hp1, hp2, _⟩ := hchq p (List.mem_of_getElem? hp)
      have hI1 : Ia ≠ Hd := I14.headNe D14.ob
      have hI2 : Ia ≠ Dd := I14.headNe D14.dc
      have hI3 : Ia ≠ Ll := I14.headNe D14.ls
      have hI4 : Ia ≠ L + 1 := I14.headNe hd3
      have hI5 : ∀ q ∈ ld, q.1 ≠ Ll → q.1 ≠ Ia := fun q hq hne => Ne.symm (I14.headNe (o' := q.2) (hd4 q hq hne))
      have hi1 : (0 + (j : Int) * 2) = ((2 * j : Nat) : Int) := by omega
      have hi2 : (0 + (j : Int) * 2) + 1 = ((2 * j + 1 : Nat) : Int) := by omega
      have hfit : ∀ k : Nat, k ≤ 20 → fitsSsize (k : Int) = true := by
        have : ∀ k, k < 21 → fitsSsize ((k : Nat) : Int) = true := by decide +kernel
        exact fun k hk => this k (by omega)
      have hit1 : Txt.item (chW ch) ((2 * j : Nat) : Int) = L1 p.1 := item_at (by rw [chW_cps]; exact g1)
      have hit2 : Txt.item (chW ch) ((2 * j + 1 : Nat) : Int) = L1 p.2 := item_at (by rw [chW_cps]; exact g2)
      have D15 : Deals ((Ia, oI) :: ld') Hd Dd dd Ll dit2 de2 (gg j) Td2 vd2 := D14.mono fun q hq => .tail _ hq
      rw [hi1] at *
      refine wpAny_assign_Name (rStore I14 N rfl rfl fun s15 I15 => ?_)
      clear I14
      repeat (walk_at "st")
      refine wpAny_Assign_Subscript ?_
      refine Subscript_ ?_
      repeat (walk_at "st")
      refine add_int ?_
      rename_i t16 s16 I16
      replace I16 := I16.tok (tk := s16.toks + 1)
      rw [show ((2 * j : Nat) : Int) + 1 = ((2 * j + 1 : Nat) : Int) from by omega]
      refine item_str (hfit _ (by omega)) (by omega) (by omega) ?_
      intro _
      rw [hit2]
      replace I16 := I16.tok (tk := s16.toks + 1 + 1)
      repeat (walk_at "st")
      refine MethodCall_ ?_
      refine Subscript_ ?_
      repeat (walk_at "st")
      refine item_str (hfit _ (by omega)) (by omega) (by omega) ?_
      intro _
      rw [hit1]
      replace I16 := I16.tok (tk := s16.toks + 1 + 1 + 1)
      refine GM.upper ?_
      refine callWith_method0 ?_
      refine SCL.upper (by show 1 ≤ 5592405; decide) ?_
      intro _
      rw [upper_eq hp1]
      replace I16 := I16.tok (tk := s16.toks + 1 + 1 + 1 + 1)
      refine rSetItemO I16 D15 ?_
      refine setitem_ct (n := n) ok I16 (hA'.mono (by omega)) D15 (Nat.le_trans (hgg j) (by decide)) (up_ok hp1) (ltr_ok hp2) ?_
      intro ld2 dit3 de3 Td3 vd3 s17 hm17 D17 I17
      clear I16 I15
      repeat (walk_at "st")
      refine wpAny_Assign_Subscript ?_
      refine Subscript_ ?_
      repeat (walk_at "st")
      refine item_str (hfit _ (by omega)) (by omega) (by omega) ?_
      intro _
      rw [hit1]
      replace I17 := I17.tok (tk := s17.toks + 1)
      repeat (walk_at "st")
      refine MethodCall_ ?_
      refine Subscript_ ?_
      repeat (walk_at "st")
      refine add_int ?_
      rename_i t18 s18 I18
      replace I18 := I18.tok (tk := s18.toks + 1)
      rw [show ((2 * j : Nat) : Int) + 1 = ((2 * j + 1 : Nat) : Int) from by omega]
      refine item_str (hfit _ (by omega)) (by omega) (by omega) ?_
      intro _
      rw [hit2]
      replace I18 := I18.tok (tk := s18.toks + 1 + 1)
      refine GM.upper ?_
      refine callWith_method0 ?_
      refine SCL.upper (by show 1 ≤ 5592405; decide) ?_
      intro _
      rw [upper_eq hp2]
      replace I18 := I18.tok (tk := s18.toks + 1 + 1 + 1)
      refine rSetItemO I18 D17 ?_
      refine setitem_ct (n := n) ok I18 (hA'.mono (by omega)) D17 (Nat.le_trans (setS_len _ _ _) (by have := hgg j; omega)) (up_ok hp2) (ltr_ok hp1) ?_
      intro ld3 dit4 de4 Td4 vd4 s19 hm19 D19 I19
      clear I17 I18
      repeat (walk_at "st")
      have hIa : (Ia, oI) ∈ ld3 := hm19 _ (hm17 _ (.head _) hI3) hI3
      obtain ⟨l4, I20, D20, hm20⟩ := D19.pull I19 hIa hcl hI1 hI2 hI3
      refine ⟨_, l4, ⟨by walk_at "lk", by walk_at "lk", hm20 _ (hm19 _ (hm17 _ (.tail _ hd3) hL1) hL1) (Ne.symm hI4), fun q hq hne => hm20 q (hm19 q (hm17 q (.tail _ (hd4 q hq hne)) hne) hne) (hI5 q hq hne), dit4, de4, Td4, vd4, ?_⟩, I20⟩
      show Deals l4 Hd Dd dd Ll dit4 de4 ((ch.take (j + 1)).foldl turnS (delS g (L1 (mu pl.2)))) Td4 vd4
      rw [turn_take _ hp]
      exact D20
    · rintro m ld' s14 ⟨hd1, hd2, hd3, hd4, dit2, de2, Td2, vd2, D14⟩ I14
      repeat (walk_at "st")
      refine rCell I14 N hcells hd3 dM ?_
      refine h M ch rr tM ld' dit2 de2 Td2 vd2 s14 hM1 hM2 hB hd4 ?_ I14.dropFr
      have e : settleS g mu ch = gg ch.length := by
        unfold settleS
        rw [hlast]
        show ch.foldl turnS _ = (ch.take ch.length).foldl turnS _
        rw [List.take_length]
      rw [e]
      exact D14
end

/-! part F28 -/
def IsMax (M : Int) (l : List Int) : Prop := M ∈ l ∧ ∀ a ∈ l, a ≤ M
def flatM (pr : Nat → Nat → Int) : List Nat → List Nat → List Int
  | [], _ => [0]
  | f :: r, many => many.flatMap fun x => (flatM pr r (many.filter (· != x))).map (pr f x + ·)
def okM : List Nat → List Nat → Bool
  | [], _ => true
  | _ :: r, many => !many.isEmpty && many.all fun x => okM r (many.filter (· != x))
theorem most_flat (pr : Nat → Nat → Int) : ∀ (few many : List Nat), okM few many = true → IsMax (mostV pr few many) (flatM pr few many)
  | [], _, _ => ⟨.head _, fun a h => by rw [List.mem_singleton.mp h]; exact Int.le_refl _⟩
  | f :: r, many, h => by
    simp only [okM, Bool.and_eq_true, List.all_eq_true] at h
    obtain ⟨h1, h2⟩ := h
    have hne : (many.map fun x => pr f x + mostV pr r (many.filter (· != x))) ≠ [] := by
      cases many with
      | nil => simp at h1
      | cons _ _ => simp
    obtain ⟨h3, h4⟩ := maxL_spec hne
    refine ⟨?_, fun y hy => ?_⟩
    · obtain ⟨x, hx, e⟩ := List.mem_map.mp h3
      refine List.mem_flatMap.mpr ⟨x, hx, List.mem_map.mpr ⟨_, (most_flat pr r _ (h2 x hx)).1, ?_⟩⟩
      exact e
    · obtain ⟨x, hx, hy⟩ := List.mem_flatMap.mp hy
      obtain ⟨z, hz, rfl⟩ := List.mem_map.mp hy
      have := (most_flat pr r _ (h2 x hx)).2 z hz
      have h5 := h4 _ (List.mem_map.mpr ⟨x, hx, rfl⟩)
      show pr f x + z ≤ maxL _
      omega

def muT (t : List (Nat × Nat)) (q : Nat) : Nat := (t.lookup q).getD 45
def muB (g : List (Str × Str)) (t : List (Nat × Nat)) : Bool := ltrs.all fun q => match g.find? (fun p => Txt.lower p.1 == Txt.lower (L1 q)) with
  | none => muT t q == 45
  | some p => decide (muT t q ∈ ltrs) && (isA (muT t q) == isK q) && (p.2 == L1 (muT t q))
theorem mu_of {g : List (Str × Str)} {t : List (Nat × Nat)} (h : muB g t = true) : Mu g (muT t) := fun q hq => by
  have := List.all_eq_true.mp h q hq
  split at this
  · rename_i e
    exact .inl ⟨beq_iff_eq.mp this, e⟩
  · rename_i p e
    simp only [Bool.and_eq_true, decide_eq_true_eq, beq_iff_eq] at this
    exact .inr ⟨this.1.1, this.1.2, p, e, this.2⟩

abbrev n0 (x : Str) : Nat := x.cps.getD 0 0
def sumOf (pr : Nat → Nat → Int) (g : List (Str × Str)) : Int := (g.map fun p => pr (n0 (Txt.lower p.1)) (n0 p.2)).sum
def goodB (g : List (Str × Str)) : Bool := g.all fun p => (Txt.lower p.1 == L1 (n0 (Txt.lower p.1))) && (p.2 == L1 (n0 p.2)) && ((isA (n0 (Txt.lower p.1)) && isK (n0 p.2)) || (isK (n0 (Txt.lower p.1)) && isA (n0 p.2)))

section
variable {pr : Nat → Nat → Int}
abbrev base (pr : Nat → Nat → Int) : Int := mostV pr [107, 108] [97, 98]
abbrev more (pr : Nat → Nat → Int) : Int := mostV pr [107, 108] [97, 98, 99]
/-- what the plain law asks after the settling -/
def After (pr : Nat → Nat → Int) (g' : List (Str × Str)) : Prop := goodB g' = true ∧ g'.length ≤ 50 ∧ sumOf pr g' = 2 * more pr ∧ ∃ mu', Mu g' mu' ∧
  (∀ M, IsMax M (gainsOf (chainsS mu' pr [97, 98, 99, 107, 108, 100] 6 [] 100 0)) → M = mostV pr [107, 108] [97, 98, 99, 100] - more pr) ∧
  (∀ M, IsMax M (gainsOf (chainsS mu' pr [97, 98, 99, 107, 108, 109] 6 [] 109 0)) → M = mostV pr [107, 108, 109] [97, 98, 99] - more pr)

theorem m_base (pr : Nat → Nat → Int) : IsMax (base pr) [pr 107 97 + (pr 108 98 + 0), pr 107 98 + (pr 108 97 + 0)] := most_flat pr [107, 108] [97, 98] rfl
theorem m_more (pr : Nat → Nat → Int) : IsMax (more pr) [pr 107 97 + (pr 108 98 + 0), pr 107 97 + (pr 108 99 + 0), pr 107 98 + (pr 108 97 + 0), pr 107 98 + (pr 108 99 + 0), pr 107 99 + (pr 108 97 + 0), pr 107 99 + (pr 108 98 + 0)] := most_flat pr [107, 108] [97, 98, 99] rfl
theorem m_abd (pr : Nat → Nat → Int) : IsMax (mostV pr [107, 108] [97, 98, 100]) [pr 107 97 + (pr 108 98 + 0), pr 107 97 + (pr 108 100 + 0), pr 107 98 + (pr 108 97 + 0), pr 107 98 + (pr 108 100 + 0), pr 107 100 + (pr 108 97 + 0), pr 107 100 + (pr 108 98 + 0)] := most_flat pr [107, 108] [97, 98, 100] rfl
theorem m_abm (pr : Nat → Nat → Int) : IsMax (mostV pr [97, 98] [107, 108, 109]) [pr 97 107 + (pr 98 108 + 0), pr 97 107 + (pr 98 109 + 0), pr 97 108 + (pr 98 107 + 0), pr 97 108 + (pr 98 109 + 0), pr 97 109 + (pr 98 107 + 0), pr 97 109 + (pr 98 108 + 0)] := most_flat pr [97, 98] [107, 108, 109] rfl
theorem m_abcd (pr : Nat → Nat → Int) : IsMax (mostV pr [107, 108] [97, 98, 99, 100]) [pr 107 97 + (pr 108 98 + 0), pr 107 97 + (pr 108 99 + 0), pr 107 97 + (pr 108 100 + 0), pr 107 98 + (pr 108 97 + 0), pr 107 98 + (pr 108 99 + 0), pr 107 98 + (pr 108 100 + 0), pr 107 99 + (pr 108 97 + 0), pr 107 99 + (pr 108 98 + 0), pr 107 99 + (pr 108 100 + 0), pr 107 100 + (pr 108 97 + 0), pr 107 100 + (pr 108 98 + 0), pr 107 100 + (pr 108 99 + 0)] := most_flat pr [107, 108] [97, 98, 99, 100] rfl
theorem m_klm (pr : Nat → Nat → Int) : IsMax (mostV pr [107, 108, 109] [97, 98, 99]) [pr 107 97 + (pr 108 98 + (pr 109 99 + 0)), pr 107 97 + (pr 108 99 + (pr 109 98 + 0)), pr 107 98 + (pr 108 97 + (pr 109 99 + 0)), pr 107 98 + (pr 108 99 + (pr 109 97 + 0)), pr 107 99 + (pr 108 97 + (pr 109 98 + 0)), pr 107 99 + (pr 108 98 + (pr 109 97 + 0))] := most_flat pr [107, 108, 109] [97, 98, 99] rfl

def gS : List (Str × Str) := [(L1 65, L1 107), (L1 75, L1 97), (L1 66, L1 108), (L1 76, L1 98)]
def tS : List (Nat × Nat) := [(97, 107), (107, 97), (98, 108), (108, 98)]
theorem muS : Mu gS (muT tS) := mu_of (by kernel_rfl)
theorem FSd : chainsS (muT tS) pr [97, 98, 107, 108, 100] 6 [] 100 0 = [(0, []), (0 + pr 100 107 - pr 107 97, [(100, 107)]), (0 + pr 100 107 - pr 107 97 + pr 97 108 - pr 108 98, [(100, 107), (97, 108)]), (0 + pr 100 108 - pr 108 98, [(100, 108)]), (0 + pr 100 108 - pr 108 98 + pr 98 107 - pr 107 97, [(100, 108), (98, 107)])] := by rfl
theorem FSm : chainsS (muT tS) pr [97, 98, 107, 108, 109] 6 [] 109 0 = [(0, []), (0 + pr 109 97 - pr 97 107, [(109, 97)]), (0 + pr 109 97 - pr 97 107 + pr 107 98 - pr 98 108, [(109, 97), (107, 98)]), (0 + pr 109 98 - pr 98 108, [(109, 98)]), (0 + pr 109 98 - pr 98 108 + pr 108 97 - pr 97 107, [(109, 98), (108, 97)])] := by rfl
theorem FSc : chainsS (muT tS) pr [97, 98, 107, 108, 99] 6 [] 99 0 = [(0, []), (0 + pr 99 107 - pr 107 97, [(99, 107)]), (0 + pr 99 107 - pr 107 97 + pr 97 108 - pr 108 98, [(99, 107), (97, 108)]), (0 + pr 99 108 - pr 108 98, [(99, 108)]), (0 + pr 99 108 - pr 108 98 + pr 98 107 - pr 107 97, [(99, 108), (98, 107)])] := by rfl
theorem aloneSd (hs : ∀ x q, pr x q = pr q x) (hn : ∀ x q, 0 ≤ pr x q ∧ pr x q ≤ 5) (hc : pr 97 107 + pr 98 108 ≥ pr 97 108 + pr 98 107) {M : Int} (h : IsMax M (gainsOf (chainsS (muT tS) pr [97, 98, 107, 108, 100] 6 [] 100 0))) : M = mostV pr [107, 108] [97, 98, 100] - base pr := by
  rw [FSd] at h
  have h1 := m_base pr
  have h2 := m_abd pr
  simp only [IsMax, List.mem_cons, List.not_mem_nil, or_false, forall_eq_or_imp, forall_eq, List.map_cons, List.map_nil, gainsOf] at h h1 h2
  obtain ⟨d, b⟩ := h
  obtain ⟨d1, b1⟩ := h1
  obtain ⟨d2, b2⟩ := h2
  have s97107 := hs 107 97
  have s97108 := hs 108 97
  have s97109 := hs 109 97
  have s98107 := hs 107 98
  have s98108 := hs 108 98
  have s98109 := hs 109 98
  have s99107 := hs 107 99
  have s99108 := hs 108 99
  have s99109 := hs 109 99
  have s100107 := hs 107 100
  have s100108 := hs 108 100
  have s100109 := hs 109 100
  refine Int.le_antisymm ?_ ?_
  · rcases d1 with d1 | d1 <;> rcases d with d | d | d | d | d <;> omega
  · rcases d1 with d1 | d1 <;> rcases d2 with d2 | d2 | d2 | d2 | d2 | d2 <;> omega
theorem aloneSm (hs : ∀ x q, pr x q = pr q x) (hn : ∀ x q, 0 ≤ pr x q ∧ pr x q ≤ 5) (hc : pr 97 107 + pr 98 108 ≥ pr 97 108 + pr 98 107) {M : Int} (h : IsMax M (gainsOf (chainsS (muT tS) pr [97, 98, 107, 108, 109] 6 [] 109 0))) : M = mostV pr [97, 98] [107, 108, 109] - base pr := by
  rw [FSm] at h
  have h1 := m_base pr
  have h2 := m_abm pr
  simp only [IsMax, List.mem_cons, List.not_mem_nil, or_false, forall_eq_or_imp, forall_eq, List.map_cons, List.map_nil, gainsOf] at h h1 h2
  obtain ⟨d, b⟩ := h
  obtain ⟨d1, b1⟩ := h1
  obtain ⟨d2, b2⟩ := h2
  have s97107 := hs 107 97
  have s97108 := hs 108 97
  have s97109 := hs 109 97
  have s98107 := hs 107 98
  have s98108 := hs 108 98
  have s98109 := hs 109 98
  have s99107 := hs 107 99
  have s99108 := hs 108 99
  have s99109 := hs 109 99
  have s100107 := hs 107 100
  have s100108 := hs 108 100
  have s100109 := hs 109 100
  refine Int.le_antisymm ?_ ?_
  · rcases d1 with d1 | d1 <;> rcases d with d | d | d | d | d <;> omega
  · rcases d1 with d1 | d1 <;> rcases d2 with d2 | d2 | d2 | d2 | d2 | d2 <;> omega
theorem aloneSc (hs : ∀ x q, pr x q = pr q x) (hn : ∀ x q, 0 ≤ pr x q ∧ pr x q ≤ 5) (hc : pr 97 107 + pr 98 108 ≥ pr 97 108 + pr 98 107) {M : Int} (h : IsMax M (gainsOf (chainsS (muT tS) pr [97, 98, 107, 108, 99] 6 [] 99 0))) : M = more pr - base pr := by
  rw [FSc] at h
  have h1 := m_base pr
  have h2 := m_more pr
  simp only [IsMax, List.mem_cons, List.not_mem_nil, or_false, forall_eq_or_imp, forall_eq, List.map_cons, List.map_nil, gainsOf] at h h1 h2
  obtain ⟨d, b⟩ := h
  obtain ⟨d1, b1⟩ := h1
  obtain ⟨d2, b2⟩ := h2
  have s97107 := hs 107 97
  have s97108 := hs 108 97
  have s97109 := hs 109 97
  have s98107 := hs 107 98
  have s98108 := hs 108 98
  have s98109 := hs 109 98
  have s99107 := hs 107 99
  have s99108 := hs 108 99
  have s99109 := hs 109 99
  have s100107 := hs 107 100
  have s100108 := hs 108 100
  have s100109 := hs 109 100
  refine Int.le_antisymm ?_ ?_
  · rcases d1 with d1 | d1 <;> rcases d with d | d | d | d | d <;> omega
  · rcases d1 with d1 | d1 <;> rcases d2 with d2 | d2 | d2 | d2 | d2 | d2 <;> omega
def gC : List (Str × Str) := [(L1 65, L1 108), (L1 76, L1 97), (L1 66, L1 107), (L1 75, L1 98)]
def tC : List (Nat × Nat) := [(97, 108), (108, 97), (98, 107), (107, 98)]
theorem muC : Mu gC (muT tC) := mu_of (by kernel_rfl)
theorem FCd : chainsS (muT tC) pr [97, 98, 107, 108, 100] 6 [] 100 0 = [(0, []), (0 + pr 100 107 - pr 107 98, [(100, 107)]), (0 + pr 100 107 - pr 107 98 + pr 98 108 - pr 108 97, [(100, 107), (98, 108)]), (0 + pr 100 108 - pr 108 97, [(100, 108)]), (0 + pr 100 108 - pr 108 97 + pr 97 107 - pr 107 98, [(100, 108), (97, 107)])] := by rfl
theorem FCm : chainsS (muT tC) pr [97, 98, 107, 108, 109] 6 [] 109 0 = [(0, []), (0 + pr 109 97 - pr 97 108, [(109, 97)]), (0 + pr 109 97 - pr 97 108 + pr 108 98 - pr 98 107, [(109, 97), (108, 98)]), (0 + pr 109 98 - pr 98 107, [(109, 98)]), (0 + pr 109 98 - pr 98 107 + pr 107 97 - pr 97 108, [(109, 98), (107, 97)])] := by rfl
theorem FCc : chainsS (muT tC) pr [97, 98, 107, 108, 99] 6 [] 99 0 = [(0, []), (0 + pr 99 107 - pr 107 98, [(99, 107)]), (0 + pr 99 107 - pr 107 98 + pr 98 108 - pr 108 97, [(99, 107), (98, 108)]), (0 + pr 99 108 - pr 108 97, [(99, 108)]), (0 + pr 99 108 - pr 108 97 + pr 97 107 - pr 107 98, [(99, 108), (97, 107)])] := by rfl
theorem aloneCd (hs : ∀ x q, pr x q = pr q x) (hn : ∀ x q, 0 ≤ pr x q ∧ pr x q ≤ 5) (hc : ¬ (pr 97 107 + pr 98 108 ≥ pr 97 108 + pr 98 107)) {M : Int} (h : IsMax M (gainsOf (chainsS (muT tC) pr [97, 98, 107, 108, 100] 6 [] 100 0))) : M = mostV pr [107, 108] [97, 98, 100] - base pr := by
  rw [FCd] at h
  have h1 := m_base pr
  have h2 := m_abd pr
  simp only [IsMax, List.mem_cons, List.not_mem_nil, or_false, forall_eq_or_imp, forall_eq, List.map_cons, List.map_nil, gainsOf] at h h1 h2
  obtain ⟨d, b⟩ := h
  obtain ⟨d1, b1⟩ := h1
  obtain ⟨d2, b2⟩ := h2
  have s97107 := hs 107 97
  have s97108 := hs 108 97
  have s97109 := hs 109 97
  have s98107 := hs 107 98
  have s98108 := hs 108 98
  have s98109 := hs 109 98
  have s99107 := hs 107 99
  have s99108 := hs 108 99
  have s99109 := hs 109 99
  have s100107 := hs 107 100
  have s100108 := hs 108 100
  have s100109 := hs 109 100
  refine Int.le_antisymm ?_ ?_
  · rcases d1 with d1 | d1 <;> rcases d with d | d | d | d | d <;> omega
  · rcases d1 with d1 | d1 <;> rcases d2 with d2 | d2 | d2 | d2 | d2 | d2 <;> omega
theorem aloneCm (hs : ∀ x q, pr x q = pr q x) (hn : ∀ x q, 0 ≤ pr x q ∧ pr x q ≤ 5) (hc : ¬ (pr 97 107 + pr 98 108 ≥ pr 97 108 + pr 98 107)) {M : Int} (h : IsMax M (gainsOf (chainsS (muT tC) pr [97, 98, 107, 108, 109] 6 [] 109 0))) : M = mostV pr [97, 98] [107, 108, 109] - base pr := by
  rw [FCm] at h
  have h1 := m_base pr
  have h2 := m_abm pr
  simp only [IsMax, List.mem_cons, List.not_mem_nil, or_false, forall_eq_or_imp, forall_eq, List.map_cons, List.map_nil, gainsOf] at h h1 h2
  obtain ⟨d, b⟩ := h
  obtain ⟨d1, b1⟩ := h1
  obtain ⟨d2, b2⟩ := h2
  have s97107 := hs 107 97
  have s97108 := hs 108 97
  have s97109 := hs 109 97
  have s98107 := hs 107 98
  have s98108 := hs 108 98
  have s98109 := hs 109 98
  have s99107 := hs 107 99
  have s99108 := hs 108 99
  have s99109 := hs 109 99
  have s100107 := hs 107 100
  have s100108 := hs 108 100
  have s100109 := hs 109 100
  refine Int.le_antisymm ?_ ?_
  · rcases d1 with d1 | d1 <;> rcases d with d | d | d | d | d <;> omega
  · rcases d1 with d1 | d1 <;> rcases d2 with d2 | d2 | d2 | d2 | d2 | d2 <;> omega
theorem aloneCc (hs : ∀ x q, pr x q = pr q x) (hn : ∀ x q, 0 ≤ pr x q ∧ pr x q ≤ 5) (hc : ¬ (pr 97 107 + pr 98 108 ≥ pr 97 108 + pr 98 107)) {M : Int} (h : IsMax M (gainsOf (chainsS (muT tC) pr [97, 98, 107, 108, 99] 6 [] 99 0))) : M = more pr - base pr := by
  rw [FCc] at h
  have h1 := m_base pr
  have h2 := m_more pr
  simp only [IsMax, List.mem_cons, List.not_mem_nil, or_false, forall_eq_or_imp, forall_eq, List.map_cons, List.map_nil, gainsOf] at h h1 h2
  obtain ⟨d, b⟩ := h
  obtain ⟨d1, b1⟩ := h1
  obtain ⟨d2, b2⟩ := h2
  have s97107 := hs 107 97
  have s97108 := hs 108 97
  have s97109 := hs 109 97
  have s98107 := hs 107 98
  have s98108 := hs 108 98
  have s98109 := hs 109 98
  have s99107 := hs 107 99
  have s99108 := hs 108 99
  have s99109 := hs 109 99
  have s100107 := hs 107 100
  have s100108 := hs 108 100
  have s100109 := hs 109 100
  refine Int.le_antisymm ?_ ?_
  · rcases d1 with d1 | d1 <;> rcases d with d | d | d | d | d <;> omega
  · rcases d1 with d1 | d1 <;> rcases d2 with d2 | d2 | d2 | d2 | d2 | d2 <;> omega
theorem FdS0 : chainsS (muT [(97, 107), (107, 97), (98, 108), (108, 98)]) pr [97, 98, 99, 107, 108, 100] 6 [] 100 0 = [(0, []), (0 + pr 100 107 - pr 107 97, [(100, 107)]), (0 + pr 100 107 - pr 107 97 + pr 97 108 - pr 108 98, [(100, 107), (97, 108)]), (0 + pr 100 108 - pr 108 98, [(100, 108)]), (0 + pr 100 108 - pr 108 98 + pr 98 107 - pr 107 97, [(100, 108), (98, 107)])] := by rfl
theorem FmS0 : chainsS (muT [(97, 107), (107, 97), (98, 108), (108, 98)]) pr [97, 98, 99, 107, 108, 109] 6 [] 109 0 = [(0, []), (0 + pr 109 97 - pr 97 107, [(109, 97)]), (0 + pr 109 97 - pr 97 107 + pr 107 98 - pr 98 108, [(109, 97), (107, 98)]), (0 + pr 109 97 - pr 97 107 + pr 107 98 - pr 98 108 + pr 108 99, [(109, 97), (107, 98), (108, 99)]), (0 + pr 109 97 - pr 97 107 + pr 107 99, [(109, 97), (107, 99)]), (0 + pr 109 98 - pr 98 108, [(109, 98)]), (0 + pr 109 98 - pr 98 108 + pr 108 97 - pr 97 107, [(109, 98), (108, 97)]), (0 + pr 109 98 - pr 98 108 + pr 108 97 - pr 97 107 + pr 107 99, [(109, 98), (108, 97), (107, 99)]), (0 + pr 109 98 - pr 98 108 + pr 108 99, [(109, 98), (108, 99)]), (0 + pr 109 99, [(109, 99)])] := by rfl
theorem afterS0 (hs : ∀ x q, pr x q = pr q x) (hn : ∀ x q, 0 ≤ pr x q ∧ pr x q ≤ 5) (hc : pr 97 107 + pr 98 108 ≥ pr 97 108 + pr 98 107) {M : Int} (h : IsMax M (gainsOf (chainsS (muT tS) pr [97, 98, 107, 108, 99] 6 [] 99 0))) (hM : M = 0) : After pr (settleS gS (muT tS) []) := by
  have e : settleS gS (muT tS) [] = [(L1 65, L1 107), (L1 75, L1 97), (L1 66, L1 108), (L1 76, L1 98)] := by kernel_rfl
  have es : sumOf pr [(L1 65, L1 107), (L1 75, L1 97), (L1 66, L1 108), (L1 76, L1 98)] = pr 97 107 + (pr 107 97 + (pr 98 108 + (pr 108 98 + 0))) := by kernel_rfl
  rw [e]
  rw [FSc] at h
  have h2 := m_more pr
  simp only [IsMax, List.mem_cons, List.not_mem_nil, or_false, forall_eq_or_imp, forall_eq, List.map_cons, List.map_nil, gainsOf] at h h2
  obtain ⟨_, b⟩ := h
  obtain ⟨d2, b2⟩ := h2
  have s97107 := hs 107 97
  have s97108 := hs 108 97
  have s97109 := hs 109 97
  have s98107 := hs 107 98
  have s98108 := hs 108 98
  have s98109 := hs 109 98
  have s99107 := hs 107 99
  have s99108 := hs 108 99
  have s99109 := hs 109 99
  have s100107 := hs 107 100
  have s100108 := hs 108 100
  have s100109 := hs 109 100
  have hmore : more pr = pr 97 107 + pr 98 108 := by
    refine Int.le_antisymm ?_ ?_
    · rcases d2 with d2 | d2 | d2 | d2 | d2 | d2 <;> omega
    · omega
  refine ⟨by kernel_rfl, by decide, by rw [es]; omega, muT [(97, 107), (107, 97), (98, 108), (108, 98)], mu_of (by kernel_rfl), ?_, ?_⟩
  · intro M' h'
    rw [FdS0] at h'
    have h3 := m_abcd pr
    simp only [IsMax, List.mem_cons, List.not_mem_nil, or_false, forall_eq_or_imp, forall_eq, List.map_cons, List.map_nil, gainsOf] at h' h3
    obtain ⟨d', b'⟩ := h'
    obtain ⟨d3, b3⟩ := h3
    refine Int.le_antisymm ?_ ?_
    · rcases d' with d' | d' | d' | d' | d' <;> omega
    · rcases d3 with d3 | d3 | d3 | d3 | d3 | d3 | d3 | d3 | d3 | d3 | d3 | d3 <;> omega
  · intro M' h'
    rw [FmS0] at h'
    have h3 := m_klm pr
    simp only [IsMax, List.mem_cons, List.not_mem_nil, or_false, forall_eq_or_imp, forall_eq, List.map_cons, List.map_nil, gainsOf] at h' h3
    obtain ⟨d', b'⟩ := h'
    obtain ⟨d3, b3⟩ := h3
    have p97107 := (hn 97 107).1
    have p97108 := (hn 97 108).1
    have p97109 := (hn 97 109).1
    have p98107 := (hn 98 107).1
    have p98108 := (hn 98 108).1
    have p98109 := (hn 98 109).1
    have p99107 := (hn 99 107).1
    have p99108 := (hn 99 108).1
    have p99109 := (hn 99 109).1
    refine Int.le_antisymm ?_ ?_
    · rcases d' with d' | d' | d' | d' | d' | d' | d' | d' | d' | d' <;> omega
    · rcases d3 with d3 | d3 | d3 | d3 | d3 | d3 <;> omega
theorem FdS1 : chainsS (muT [(98, 108), (108, 98), (99, 107), (107, 99)]) pr [97, 98, 99, 107, 108, 100] 6 [] 100 0 = [(0, []), (0 + pr 100 107 - pr 107 99, [(100, 107)]), (0 + pr 100 107 - pr 107 99 + pr 99 108 - pr 108 98, [(100, 107), (99, 108)]), (0 + pr 100 108 - pr 108 98, [(100, 108)]), (0 + pr 100 108 - pr 108 98 + pr 98 107 - pr 107 99, [(100, 108), (98, 107)])] := by rfl
theorem FmS1 : chainsS (muT [(98, 108), (108, 98), (99, 107), (107, 99)]) pr [97, 98, 99, 107, 108, 109] 6 [] 109 0 = [(0, []), (0 + pr 109 97, [(109, 97)]), (0 + pr 109 98 - pr 98 108, [(109, 98)]), (0 + pr 109 98 - pr 98 108 + pr 108 97, [(109, 98), (108, 97)]), (0 + pr 109 98 - pr 98 108 + pr 108 99 - pr 99 107, [(109, 98), (108, 99)]), (0 + pr 109 98 - pr 98 108 + pr 108 99 - pr 99 107 + pr 107 97, [(109, 98), (108, 99), (107, 97)]), (0 + pr 109 99 - pr 99 107, [(109, 99)]), (0 + pr 109 99 - pr 99 107 + pr 107 97, [(109, 99), (107, 97)]), (0 + pr 109 99 - pr 99 107 + pr 107 98 - pr 98 108, [(109, 99), (107, 98)]), (0 + pr 109 99 - pr 99 107 + pr 107 98 - pr 98 108 + pr 108 97, [(109, 99), (107, 98), (108, 97)])] := by rfl
theorem afterS1 (hs : ∀ x q, pr x q = pr q x) (hn : ∀ x q, 0 ≤ pr x q ∧ pr x q ≤ 5) (hc : pr 97 107 + pr 98 108 ≥ pr 97 108 + pr 98 107) {M : Int} (h : IsMax M (gainsOf (chainsS (muT tS) pr [97, 98, 107, 108, 99] 6 [] 99 0))) (hM : M = 0 + pr 99 107 - pr 107 97) : After pr (settleS gS (muT tS) [(99, 107)]) := by
  have e : settleS gS (muT tS) [(99, 107)] = [(L1 66, L1 108), (L1 76, L1 98), (L1 67, L1 107), (L1 75, L1 99)] := by kernel_rfl
  have es : sumOf pr [(L1 66, L1 108), (L1 76, L1 98), (L1 67, L1 107), (L1 75, L1 99)] = pr 98 108 + (pr 108 98 + (pr 99 107 + (pr 107 99 + 0))) := by kernel_rfl
  rw [e]
  rw [FSc] at h
  have h2 := m_more pr
  simp only [IsMax, List.mem_cons, List.not_mem_nil, or_false, forall_eq_or_imp, forall_eq, List.map_cons, List.map_nil, gainsOf] at h h2
  obtain ⟨_, b⟩ := h
  obtain ⟨d2, b2⟩ := h2
  have s97107 := hs 107 97
  have s97108 := hs 108 97
  have s97109 := hs 109 97
  have s98107 := hs 107 98
  have s98108 := hs 108 98
  have s98109 := hs 109 98
  have s99107 := hs 107 99
  have s99108 := hs 108 99
  have s99109 := hs 109 99
  have s100107 := hs 107 100
  have s100108 := hs 108 100
  have s100109 := hs 109 100
  have hmore : more pr = pr 98 108 + pr 99 107 := by
    refine Int.le_antisymm ?_ ?_
    · rcases d2 with d2 | d2 | d2 | d2 | d2 | d2 <;> omega
    · omega
  refine ⟨by kernel_rfl, by decide, by rw [es]; omega, muT [(98, 108), (108, 98), (99, 107), (107, 99)], mu_of (by kernel_rfl), ?_, ?_⟩
  · intro M' h'
    rw [FdS1] at h'
    have h3 := m_abcd pr
    simp only [IsMax, List.mem_cons, List.not_mem_nil, or_false, forall_eq_or_imp, forall_eq, List.map_cons, List.map_nil, gainsOf] at h' h3
    obtain ⟨d', b'⟩ := h'
    obtain ⟨d3, b3⟩ := h3
    refine Int.le_antisymm ?_ ?_
    · rcases d' with d' | d' | d' | d' | d' <;> omega
    · rcases d3 with d3 | d3 | d3 | d3 | d3 | d3 | d3 | d3 | d3 | d3 | d3 | d3 <;> omega
  · intro M' h'
    rw [FmS1] at h'
    have h3 := m_klm pr
    simp only [IsMax, List.mem_cons, List.not_mem_nil, or_false, forall_eq_or_imp, forall_eq, List.map_cons, List.map_nil, gainsOf] at h' h3
    obtain ⟨d', b'⟩ := h'
    obtain ⟨d3, b3⟩ := h3
    have p97107 := (hn 97 107).1
    have p97108 := (hn 97 108).1
    have p97109 := (hn 97 109).1
    have p98107 := (hn 98 107).1
    have p98108 := (hn 98 108).1
    have p98109 := (hn 98 109).1
    have p99107 := (hn 99 107).1
    have p99108 := (hn 99 108).1
    have p99109 := (hn 99 109).1
    refine Int.le_antisymm ?_ ?_
    · rcases d' with d' | d' | d' | d' | d' | d' | d' | d' | d' | d' <;> omega
    · rcases d3 with d3 | d3 | d3 | d3 | d3 | d3 <;> omega
theorem FdS2 : chainsS (muT [(99, 107), (107, 99), (97, 108), (108, 97)]) pr [97, 98, 99, 107, 108, 100] 6 [] 100 0 = [(0, []), (0 + pr 100 107 - pr 107 99, [(100, 107)]), (0 + pr 100 107 - pr 107 99 + pr 99 108 - pr 108 97, [(100, 107), (99, 108)]), (0 + pr 100 108 - pr 108 97, [(100, 108)]), (0 + pr 100 108 - pr 108 97 + pr 97 107 - pr 107 99, [(100, 108), (97, 107)])] := by rfl
theorem FmS2 : chainsS (muT [(99, 107), (107, 99), (97, 108), (108, 97)]) pr [97, 98, 99, 107, 108, 109] 6 [] 109 0 = [(0, []), (0 + pr 109 97 - pr 97 108, [(109, 97)]), (0 + pr 109 97 - pr 97 108 + pr 108 98, [(109, 97), (108, 98)]), (0 + pr 109 97 - pr 97 108 + pr 108 99 - pr 99 107, [(109, 97), (108, 99)]), (0 + pr 109 97 - pr 97 108 + pr 108 99 - pr 99 107 + pr 107 98, [(109, 97), (108, 99), (107, 98)]), (0 + pr 109 98, [(109, 98)]), (0 + pr 109 99 - pr 99 107, [(109, 99)]), (0 + pr 109 99 - pr 99 107 + pr 107 97 - pr 97 108, [(109, 99), (107, 97)]), (0 + pr 109 99 - pr 99 107 + pr 107 97 - pr 97 108 + pr 108 98, [(109, 99), (107, 97), (108, 98)]), (0 + pr 109 99 - pr 99 107 + pr 107 98, [(109, 99), (107, 98)])] := by rfl
theorem afterS2 (hs : ∀ x q, pr x q = pr q x) (hn : ∀ x q, 0 ≤ pr x q ∧ pr x q ≤ 5) (hc : pr 97 107 + pr 98 108 ≥ pr 97 108 + pr 98 107) {M : Int} (h : IsMax M (gainsOf (chainsS (muT tS) pr [97, 98, 107, 108, 99] 6 [] 99 0))) (hM : M = 0 + pr 99 107 - pr 107 97 + pr 97 108 - pr 108 98) : After pr (settleS gS (muT tS) [(99, 107), (97, 108)]) := by
  have e : settleS gS (muT tS) [(99, 107), (97, 108)] = [(L1 67, L1 107), (L1 75, L1 99), (L1 65, L1 108), (L1 76, L1 97)] := by kernel_rfl
  have es : sumOf pr [(L1 67, L1 107), (L1 75, L1 99), (L1 65, L1 108), (L1 76, L1 97)] = pr 99 107 + (pr 107 99 + (pr 97 108 + (pr 108 97 + 0))) := by kernel_rfl
  rw [e]
  rw [FSc] at h
  have h2 := m_more pr
  simp only [IsMax, List.mem_cons, List.not_mem_nil, or_false, forall_eq_or_imp, forall_eq, List.map_cons, List.map_nil, gainsOf] at h h2
  obtain ⟨_, b⟩ := h
  obtain ⟨d2, b2⟩ := h2
  have s97107 := hs 107 97
  have s97108 := hs 108 97
  have s97109 := hs 109 97
  have s98107 := hs 107 98
  have s98108 := hs 108 98
  have s98109 := hs 109 98
  have s99107 := hs 107 99
  have s99108 := hs 108 99
  have s99109 := hs 109 99
  have s100107 := hs 107 100
  have s100108 := hs 108 100
  have s100109 := hs 109 100
  have hmore : more pr = pr 99 107 + pr 97 108 := by
    refine Int.le_antisymm ?_ ?_
    · rcases d2 with d2 | d2 | d2 | d2 | d2 | d2 <;> omega
    · omega
  refine ⟨by kernel_rfl, by decide, by rw [es]; omega, muT [(99, 107), (107, 99), (97, 108), (108, 97)], mu_of (by kernel_rfl), ?_, ?_⟩
  · intro M' h'
    rw [FdS2] at h'
    have h3 := m_abcd pr
    simp only [IsMax, List.mem_cons, List.not_mem_nil, or_false, forall_eq_or_imp, forall_eq, List.map_cons, List.map_nil, gainsOf] at h' h3
    obtain ⟨d', b'⟩ := h'
    obtain ⟨d3, b3⟩ := h3
    refine Int.le_antisymm ?_ ?_
    · rcases d' with d' | d' | d' | d' | d' <;> omega
    · rcases d3 with d3 | d3 | d3 | d3 | d3 | d3 | d3 | d3 | d3 | d3 | d3 | d3 <;> omega
  · intro M' h'
    rw [FmS2] at h'
    have h3 := m_klm pr
    simp only [IsMax, List.mem_cons, List.not_mem_nil, or_false, forall_eq_or_imp, forall_eq, List.map_cons, List.map_nil, gainsOf] at h' h3
    obtain ⟨d', b'⟩ := h'
    obtain ⟨d3, b3⟩ := h3
    have p97107 := (hn 97 107).1
    have p97108 := (hn 97 108).1
    have p97109 := (hn 97 109).1
    have p98107 := (hn 98 107).1
    have p98108 := (hn 98 108).1
    have p98109 := (hn 98 109).1
    have p99107 := (hn 99 107).1
    have p99108 := (hn 99 108).1
    have p99109 := (hn 99 109).1
    refine Int.le_antisymm ?_ ?_
    · rcases d' with d' | d' | d' | d' | d' | d' | d' | d' | d' | d' <;> omega
    · rcases d3 with d3 | d3 | d3 | d3 | d3 | d3 <;> omega
theorem FdS3 : chainsS (muT [(97, 107), (107, 97), (99, 108), (108, 99)]) pr [97, 98, 99, 107, 108, 100] 6 [] 100 0 = [(0, []), (0 + pr 100 107 - pr 107 97, [(100, 107)]), (0 + pr 100 107 - pr 107 97 + pr 97 108 - pr 108 99, [(100, 107), (97, 108)]), (0 + pr 100 108 - pr 108 99, [(100, 108)]), (0 + pr 100 108 - pr 108 99 + pr 99 107 - pr 107 97, [(100, 108), (99, 107)])] := by rfl
theorem FmS3 : chainsS (muT [(97, 107), (107, 97), (99, 108), (108, 99)]) pr [97, 98, 99, 107, 108, 109] 6 [] 109 0 = [(0, []), (0 + pr 109 97 - pr 97 107, [(109, 97)]), (0 + pr 109 97 - pr 97 107 + pr 107 98, [(109, 97), (107, 98)]), (0 + pr 109 97 - pr 97 107 + pr 107 99 - pr 99 108, [(109, 97), (107, 99)]), (0 + pr 109 97 - pr 97 107 + pr 107 99 - pr 99 108 + pr 108 98, [(109, 97), (107, 99), (108, 98)]), (0 + pr 109 98, [(109, 98)]), (0 + pr 109 99 - pr 99 108, [(109, 99)]), (0 + pr 109 99 - pr 99 108 + pr 108 97 - pr 97 107, [(109, 99), (108, 97)]), (0 + pr 109 99 - pr 99 108 + pr 108 97 - pr 97 107 + pr 107 98, [(109, 99), (108, 97), (107, 98)]), (0 + pr 109 99 - pr 99 108 + pr 108 98, [(109, 99), (108, 98)])] := by rfl
theorem afterS3 (hs : ∀ x q, pr x q = pr q x) (hn : ∀ x q, 0 ≤ pr x q ∧ pr x q ≤ 5) (hc : pr 97 107 + pr 98 108 ≥ pr 97 108 + pr 98 107) {M : Int} (h : IsMax M (gainsOf (chainsS (muT tS) pr [97, 98, 107, 108, 99] 6 [] 99 0))) (hM : M = 0 + pr 99 108 - pr 108 98) : After pr (settleS gS (muT tS) [(99, 108)]) := by
  have e : settleS gS (muT tS) [(99, 108)] = [(L1 65, L1 107), (L1 75, L1 97), (L1 67, L1 108), (L1 76, L1 99)] := by kernel_rfl
  have es : sumOf pr [(L1 65, L1 107), (L1 75, L1 97), (L1 67, L1 108), (L1 76, L1 99)] = pr 97 107 + (pr 107 97 + (pr 99 108 + (pr 108 99 + 0))) := by kernel_rfl
  rw [e]
  rw [FSc] at h
  have h2 := m_more pr
  simp only [IsMax, List.mem_cons, List.not_mem_nil, or_false, forall_eq_or_imp, forall_eq, List.map_cons, List.map_nil, gainsOf] at h h2
  obtain ⟨_, b⟩ := h
  obtain ⟨d2, b2⟩ := h2
  have s97107 := hs 107 97
  have s97108 := hs 108 97
  have s97109 := hs 109 97
  have s98107 := hs 107 98
  have s98108 := hs 108 98
  have s98109 := hs 109 98
  have s99107 := hs 107 99
  have s99108 := hs 108 99
  have s99109 := hs 109 99
  have s100107 := hs 107 100
  have s100108 := hs 108 100
  have s100109 := hs 109 100
  have hmore : more pr = pr 97 107 + pr 99 108 := by
    refine Int.le_antisymm ?_ ?_
    · rcases d2 with d2 | d2 | d2 | d2 | d2 | d2 <;> omega
    · omega
  refine ⟨by kernel_rfl, by decide, by rw [es]; omega, muT [(97, 107), (107, 97), (99, 108), (108, 99)], mu_of (by kernel_rfl), ?_, ?_⟩
  · intro M' h'
    rw [FdS3] at h'
    have h3 := m_abcd pr
    simp only [IsMax, List.mem_cons, List.not_mem_nil, or_false, forall_eq_or_imp, forall_eq, List.map_cons, List.map_nil, gainsOf] at h' h3
    obtain ⟨d', b'⟩ := h'
    obtain ⟨d3, b3⟩ := h3
    refine Int.le_antisymm ?_ ?_
    · rcases d' with d' | d' | d' | d' | d' <;> omega
    · rcases d3 with d3 | d3 | d3 | d3 | d3 | d3 | d3 | d3 | d3 | d3 | d3 | d3 <;> omega
  · intro M' h'
    rw [FmS3] at h'
    have h3 := m_klm pr
    simp only [IsMax, List.mem_cons, List.not_mem_nil, or_false, forall_eq_or_imp, forall_eq, List.map_cons, List.map_nil, gainsOf] at h' h3
    obtain ⟨d', b'⟩ := h'
    obtain ⟨d3, b3⟩ := h3
    have p97107 := (hn 97 107).1
    have p97108 := (hn 97 108).1
    have p97109 := (hn 97 109).1
    have p98107 := (hn 98 107).1
    have p98108 := (hn 98 108).1
    have p98109 := (hn 98 109).1
    have p99107 := (hn 99 107).1
    have p99108 := (hn 99 108).1
    have p99109 := (hn 99 109).1
    refine Int.le_antisymm ?_ ?_
    · rcases d' with d' | d' | d' | d' | d' | d' | d' | d' | d' | d' <;> omega
    · rcases d3 with d3 | d3 | d3 | d3 | d3 | d3 <;> omega
theorem FdS4 : chainsS (muT [(99, 108), (108, 99), (98, 107), (107, 98)]) pr [97, 98, 99, 107, 108, 100] 6 [] 100 0 = [(0, []), (0 + pr 100 107 - pr 107 98, [(100, 107)]), (0 + pr 100 107 - pr 107 98 + pr 98 108 - pr 108 99, [(100, 107), (98, 108)]), (0 + pr 100 108 - pr 108 99, [(100, 108)]), (0 + pr 100 108 - pr 108 99 + pr 99 107 - pr 107 98, [(100, 108), (99, 107)])] := by rfl
theorem FmS4 : chainsS (muT [(99, 108), (108, 99), (98, 107), (107, 98)]) pr [97, 98, 99, 107, 108, 109] 6 [] 109 0 = [(0, []), (0 + pr 109 97, [(109, 97)]), (0 + pr 109 98 - pr 98 107, [(109, 98)]), (0 + pr 109 98 - pr 98 107 + pr 107 97, [(109, 98), (107, 97)]), (0 + pr 109 98 - pr 98 107 + pr 107 99 - pr 99 108, [(109, 98), (107, 99)]), (0 + pr 109 98 - pr 98 107 + pr 107 99 - pr 99 108 + pr 108 97, [(109, 98), (107, 99), (108, 97)]), (0 + pr 109 99 - pr 99 108, [(109, 99)]), (0 + pr 109 99 - pr 99 108 + pr 108 97, [(109, 99), (108, 97)]), (0 + pr 109 99 - pr 99 108 + pr 108 98 - pr 98 107, [(109, 99), (108, 98)]), (0 + pr 109 99 - pr 99 108 + pr 108 98 - pr 98 107 + pr 107 97, [(109, 99), (108, 98), (107, 97)])] := by rfl
theorem afterS4 (hs : ∀ x q, pr x q = pr q x) (hn : ∀ x q, 0 ≤ pr x q ∧ pr x q ≤ 5) (hc : pr 97 107 + pr 98 108 ≥ pr 97 108 + pr 98 107) {M : Int} (h : IsMax M (gainsOf (chainsS (muT tS) pr [97, 98, 107, 108, 99] 6 [] 99 0))) (hM : M = 0 + pr 99 108 - pr 108 98 + pr 98 107 - pr 107 97) : After pr (settleS gS (muT tS) [(99, 108), (98, 107)]) := by
  have e : settleS gS (muT tS) [(99, 108), (98, 107)] = [(L1 67, L1 108), (L1 76, L1 99), (L1 66, L1 107), (L1 75, L1 98)] := by kernel_rfl
  have es : sumOf pr [(L1 67, L1 108), (L1 76, L1 99), (L1 66, L1 107), (L1 75, L1 98)] = pr 99 108 + (pr 108 99 + (pr 98 107 + (pr 107 98 + 0))) := by kernel_rfl
  rw [e]
  rw [FSc] at h
  have h2 := m_more pr
  simp only [IsMax, List.mem_cons, List.not_mem_nil, or_false, forall_eq_or_imp, forall_eq, List.map_cons, List.map_nil, gainsOf] at h h2
  obtain ⟨_, b⟩ := h
  obtain ⟨d2, b2⟩ := h2
  have s97107 := hs 107 97
  have s97108 := hs 108 97
  have s97109 := hs 109 97
  have s98107 := hs 107 98
  have s98108 := hs 108 98
  have s98109 := hs 109 98
  have s99107 := hs 107 99
  have s99108 := hs 108 99
  have s99109 := hs 109 99
  have s100107 := hs 107 100
  have s100108 := hs 108 100
  have s100109 := hs 109 100
  have hmore : more pr = pr 99 108 + pr 98 107 := by
    refine Int.le_antisymm ?_ ?_
    · rcases d2 with d2 | d2 | d2 | d2 | d2 | d2 <;> omega
    · omega
  refine ⟨by kernel_rfl, by decide, by rw [es]; omega, muT [(99, 108), (108, 99), (98, 107), (107, 98)], mu_of (by kernel_rfl), ?_, ?_⟩
  · intro M' h'
    rw [FdS4] at h'
    have h3 := m_abcd pr
    simp only [IsMax, List.mem_cons, List.not_mem_nil, or_false, forall_eq_or_imp, forall_eq, List.map_cons, List.map_nil, gainsOf] at h' h3
    obtain ⟨d', b'⟩ := h'
    obtain ⟨d3, b3⟩ := h3
    refine Int.le_antisymm ?_ ?_
    · rcases d' with d' | d' | d' | d' | d' <;> omega
    · rcases d3 with d3 | d3 | d3 | d3 | d3 | d3 | d3 | d3 | d3 | d3 | d3 | d3 <;> omega
  · intro M' h'
    rw [FmS4] at h'
    have h3 := m_klm pr
    simp only [IsMax, List.mem_cons, List.not_mem_nil, or_false, forall_eq_or_imp, forall_eq, List.map_cons, List.map_nil, gainsOf] at h' h3
    obtain ⟨d', b'⟩ := h'
    obtain ⟨d3, b3⟩ := h3
    have p97107 := (hn 97 107).1
    have p97108 := (hn 97 108).1
    have p97109 := (hn 97 109).1
    have p98107 := (hn 98 107).1
    have p98108 := (hn 98 108).1
    have p98109 := (hn 98 109).1
    have p99107 := (hn 99 107).1
    have p99108 := (hn 99 108).1
    have p99109 := (hn 99 109).1
    refine Int.le_antisymm ?_ ?_
    · rcases d' with d' | d' | d' | d' | d' | d' | d' | d' | d' | d' <;> omega
    · rcases d3 with d3 | d3 | d3 | d3 | d3 | d3 <;> omega
theorem FdC0 : chainsS (muT [(97, 108), (108, 97), (98, 107), (107, 98)]) pr [97, 98, 99, 107, 108, 100] 6 [] 100 0 = [(0, []), (0 + pr 100 107 - pr 107 98, [(100, 107)]), (0 + pr 100 107 - pr 107 98 + pr 98 108 - pr 108 97, [(100, 107), (98, 108)]), (0 + pr 100 108 - pr 108 97, [(100, 108)]), (0 + pr 100 108 - pr 108 97 + pr 97 107 - pr 107 98, [(100, 108), (97, 107)])] := by rfl
theorem FmC0 : chainsS (muT [(97, 108), (108, 97), (98, 107), (107, 98)]) pr [97, 98, 99, 107, 108, 109] 6 [] 109 0 = [(0, []), (0 + pr 109 97 - pr 97 108, [(109, 97)]), (0 + pr 109 97 - pr 97 108 + pr 108 98 - pr 98 107, [(109, 97), (108, 98)]), (0 + pr 109 97 - pr 97 108 + pr 108 98 - pr 98 107 + pr 107 99, [(109, 97), (108, 98), (107, 99)]), (0 + pr 109 97 - pr 97 108 + pr 108 99, [(109, 97), (108, 99)]), (0 + pr 109 98 - pr 98 107, [(109, 98)]), (0 + pr 109 98 - pr 98 107 + pr 107 97 - pr 97 108, [(109, 98), (107, 97)]), (0 + pr 109 98 - pr 98 107 + pr 107 97 - pr 97 108 + pr 108 99, [(109, 98), (107, 97), (108, 99)]), (0 + pr 109 98 - pr 98 107 + pr 107 99, [(109, 98), (107, 99)]), (0 + pr 109 99, [(109, 99)])] := by rfl
theorem afterC0 (hs : ∀ x q, pr x q = pr q x) (hn : ∀ x q, 0 ≤ pr x q ∧ pr x q ≤ 5) (hc : ¬ (pr 97 107 + pr 98 108 ≥ pr 97 108 + pr 98 107)) {M : Int} (h : IsMax M (gainsOf (chainsS (muT tC) pr [97, 98, 107, 108, 99] 6 [] 99 0))) (hM : M = 0) : After pr (settleS gC (muT tC) []) := by
  have e : settleS gC (muT tC) [] = [(L1 65, L1 108), (L1 76, L1 97), (L1 66, L1 107), (L1 75, L1 98)] := by kernel_rfl
  have es : sumOf pr [(L1 65, L1 108), (L1 76, L1 97), (L1 66, L1 107), (L1 75, L1 98)] = pr 97 108 + (pr 108 97 + (pr 98 107 + (pr 107 98 + 0))) := by kernel_rfl
  rw [e]
  rw [FCc] at h
  have h2 := m_more pr
  simp only [IsMax, List.mem_cons, List.not_mem_nil, or_false, forall_eq_or_imp, forall_eq, List.map_cons, List.map_nil, gainsOf] at h h2
  obtain ⟨_, b⟩ := h
  obtain ⟨d2, b2⟩ := h2
  have s97107 := hs 107 97
  have s97108 := hs 108 97
  have s97109 := hs 109 97
  have s98107 := hs 107 98
  have s98108 := hs 108 98
  have s98109 := hs 109 98
  have s99107 := hs 107 99
  have s99108 := hs 108 99
  have s99109 := hs 109 99
  have s100107 := hs 107 100
  have s100108 := hs 108 100
  have s100109 := hs 109 100
  have hmore : more pr = pr 97 108 + pr 98 107 := by
    refine Int.le_antisymm ?_ ?_
    · rcases d2 with d2 | d2 | d2 | d2 | d2 | d2 <;> omega
    · omega
  refine ⟨by kernel_rfl, by decide, by rw [es]; omega, muT [(97, 108), (108, 97), (98, 107), (107, 98)], mu_of (by kernel_rfl), ?_, ?_⟩
  · intro M' h'
    rw [FdC0] at h'
    have h3 := m_abcd pr
    simp only [IsMax, List.mem_cons, List.not_mem_nil, or_false, forall_eq_or_imp, forall_eq, List.map_cons, List.map_nil, gainsOf] at h' h3
    obtain ⟨d', b'⟩ := h'
    obtain ⟨d3, b3⟩ := h3
    refine Int.le_antisymm ?_ ?_
    · rcases d' with d' | d' | d' | d' | d' <;> omega
    · rcases d3 with d3 | d3 | d3 | d3 | d3 | d3 | d3 | d3 | d3 | d3 | d3 | d3 <;> omega
  · intro M' h'
    rw [FmC0] at h'
    have h3 := m_klm pr
    simp only [IsMax, List.mem_cons, List.not_mem_nil, or_false, forall_eq_or_imp, forall_eq, List.map_cons, List.map_nil, gainsOf] at h' h3
    obtain ⟨d', b'⟩ := h'
    obtain ⟨d3, b3⟩ := h3
    have p97107 := (hn 97 107).1
    have p97108 := (hn 97 108).1
    have p97109 := (hn 97 109).1
    have p98107 := (hn 98 107).1
    have p98108 := (hn 98 108).1
    have p98109 := (hn 98 109).1
    have p99107 := (hn 99 107).1
    have p99108 := (hn 99 108).1
    have p99109 := (hn 99 109).1
    refine Int.le_antisymm ?_ ?_
    · rcases d' with d' | d' | d' | d' | d' | d' | d' | d' | d' | d' <;> omega
    · rcases d3 with d3 | d3 | d3 | d3 | d3 | d3 <;> omega
theorem FdC1 : chainsS (muT [(97, 108), (108, 97), (99, 107), (107, 99)]) pr [97, 98, 99, 107, 108, 100] 6 [] 100 0 = [(0, []), (0 + pr 100 107 - pr 107 99, [(100, 107)]), (0 + pr 100 107 - pr 107 99 + pr 99 108 - pr 108 97, [(100, 107), (99, 108)]), (0 + pr 100 108 - pr 108 97, [(100, 108)]), (0 + pr 100 108 - pr 108 97 + pr 97 107 - pr 107 99, [(100, 108), (97, 107)])] := by rfl
theorem FmC1 : chainsS (muT [(97, 108), (108, 97), (99, 107), (107, 99)]) pr [97, 98, 99, 107, 108, 109] 6 [] 109 0 = [(0, []), (0 + pr 109 97 - pr 97 108, [(109, 97)]), (0 + pr 109 97 - pr 97 108 + pr 108 98, [(109, 97), (108, 98)]), (0 + pr 109 97 - pr 97 108 + pr 108 99 - pr 99 107, [(109, 97), (108, 99)]), (0 + pr 109 97 - pr 97 108 + pr 108 99 - pr 99 107 + pr 107 98, [(109, 97), (108, 99), (107, 98)]), (0 + pr 109 98, [(109, 98)]), (0 + pr 109 99 - pr 99 107, [(109, 99)]), (0 + pr 109 99 - pr 99 107 + pr 107 97 - pr 97 108, [(109, 99), (107, 97)]), (0 + pr 109 99 - pr 99 107 + pr 107 97 - pr 97 108 + pr 108 98, [(109, 99), (107, 97), (108, 98)]), (0 + pr 109 99 - pr 99 107 + pr 107 98, [(109, 99), (107, 98)])] := by rfl
theorem afterC1 (hs : ∀ x q, pr x q = pr q x) (hn : ∀ x q, 0 ≤ pr x q ∧ pr x q ≤ 5) (hc : ¬ (pr 97 107 + pr 98 108 ≥ pr 97 108 + pr 98 107)) {M : Int} (h : IsMax M (gainsOf (chainsS (muT tC) pr [97, 98, 107, 108, 99] 6 [] 99 0))) (hM : M = 0 + pr 99 107 - pr 107 98) : After pr (settleS gC (muT tC) [(99, 107)]) := by
  have e : settleS gC (muT tC) [(99, 107)] = [(L1 65, L1 108), (L1 76, L1 97), (L1 67, L1 107), (L1 75, L1 99)] := by kernel_rfl
  have es : sumOf pr [(L1 65, L1 108), (L1 76, L1 97), (L1 67, L1 107), (L1 75, L1 99)] = pr 97 108 + (pr 108 97 + (pr 99 107 + (pr 107 99 + 0))) := by kernel_rfl
  rw [e]
  rw [FCc] at h
  have h2 := m_more pr
  simp only [IsMax, List.mem_cons, List.not_mem_nil, or_false, forall_eq_or_imp, forall_eq, List.map_cons, List.map_nil, gainsOf] at h h2
  obtain ⟨_, b⟩ := h
  obtain ⟨d2, b2⟩ := h2
  have s97107 := hs 107 97
  have s97108 := hs 108 97
  have s97109 := hs 109 97
  have s98107 := hs 107 98
  have s98108 := hs 108 98
  have s98109 := hs 109 98
  have s99107 := hs 107 99
  have s99108 := hs 108 99
  have s99109 := hs 109 99
  have s100107 := hs 107 100
  have s100108 := hs 108 100
  have s100109 := hs 109 100
  have hmore : more pr = pr 97 108 + pr 99 107 := by
    refine Int.le_antisymm ?_ ?_
    · rcases d2 with d2 | d2 | d2 | d2 | d2 | d2 <;> omega
    · omega
  refine ⟨by kernel_rfl, by decide, by rw [es]; omega, muT [(97, 108), (108, 97), (99, 107), (107, 99)], mu_of (by kernel_rfl), ?_, ?_⟩
  · intro M' h'
    rw [FdC1] at h'
    have h3 := m_abcd pr
    simp only [IsMax, List.mem_cons, List.not_mem_nil, or_false, forall_eq_or_imp, forall_eq, List.map_cons, List.map_nil, gainsOf] at h' h3
    obtain ⟨d', b'⟩ := h'
    obtain ⟨d3, b3⟩ := h3
    refine Int.le_antisymm ?_ ?_
    · rcases d' with d' | d' | d' | d' | d' <;> omega
    · rcases d3 with d3 | d3 | d3 | d3 | d3 | d3 | d3 | d3 | d3 | d3 | d3 | d3 <;> omega
  · intro M' h'
    rw [FmC1] at h'
    have h3 := m_klm pr
    simp only [IsMax, List.mem_cons, List.not_mem_nil, or_false, forall_eq_or_imp, forall_eq, List.map_cons, List.map_nil, gainsOf] at h' h3
    obtain ⟨d', b'⟩ := h'
    obtain ⟨d3, b3⟩ := h3
    have p97107 := (hn 97 107).1
    have p97108 := (hn 97 108).1
    have p97109 := (hn 97 109).1
    have p98107 := (hn 98 107).1
    have p98108 := (hn 98 108).1
    have p98109 := (hn 98 109).1
    have p99107 := (hn 99 107).1
    have p99108 := (hn 99 108).1
    have p99109 := (hn 99 109).1
    refine Int.le_antisymm ?_ ?_
    · rcases d' with d' | d' | d' | d' | d' | d' | d' | d' | d' | d' <;> omega
    · rcases d3 with d3 | d3 | d3 | d3 | d3 | d3 <;> omega
theorem FdC2 : chainsS (muT [(99, 107), (107, 99), (98, 108), (108, 98)]) pr [97, 98, 99, 107, 108, 100] 6 [] 100 0 = [(0, []), (0 + pr 100 107 - pr 107 99, [(100, 107)]), (0 + pr 100 107 - pr 107 99 + pr 99 108 - pr 108 98, [(100, 107), (99, 108)]), (0 + pr 100 108 - pr 108 98, [(100, 108)]), (0 + pr 100 108 - pr 108 98 + pr 98 107 - pr 107 99, [(100, 108), (98, 107)])] := by rfl
theorem FmC2 : chainsS (muT [(99, 107), (107, 99), (98, 108), (108, 98)]) pr [97, 98, 99, 107, 108, 109] 6 [] 109 0 = [(0, []), (0 + pr 109 97, [(109, 97)]), (0 + pr 109 98 - pr 98 108, [(109, 98)]), (0 + pr 109 98 - pr 98 108 + pr 108 97, [(109, 98), (108, 97)]), (0 + pr 109 98 - pr 98 108 + pr 108 99 - pr 99 107, [(109, 98), (108, 99)]), (0 + pr 109 98 - pr 98 108 + pr 108 99 - pr 99 107 + pr 107 97, [(109, 98), (108, 99), (107, 97)]), (0 + pr 109 99 - pr 99 107, [(109, 99)]), (0 + pr 109 99 - pr 99 107 + pr 107 97, [(109, 99), (107, 97)]), (0 + pr 109 99 - pr 99 107 + pr 107 98 - pr 98 108, [(109, 99), (107, 98)]), (0 + pr 109 99 - pr 99 107 + pr 107 98 - pr 98 108 + pr 108 97, [(109, 99), (107, 98), (108, 97)])] := by rfl
theorem afterC2 (hs : ∀ x q, pr x q = pr q x) (hn : ∀ x q, 0 ≤ pr x q ∧ pr x q ≤ 5) (hc : ¬ (pr 97 107 + pr 98 108 ≥ pr 97 108 + pr 98 107)) {M : Int} (h : IsMax M (gainsOf (chainsS (muT tC) pr [97, 98, 107, 108, 99] 6 [] 99 0))) (hM : M = 0 + pr 99 107 - pr 107 98 + pr 98 108 - pr 108 97) : After pr (settleS gC (muT tC) [(99, 107), (98, 108)]) := by
  have e : settleS gC (muT tC) [(99, 107), (98, 108)] = [(L1 67, L1 107), (L1 75, L1 99), (L1 66, L1 108), (L1 76, L1 98)] := by kernel_rfl
  have es : sumOf pr [(L1 67, L1 107), (L1 75, L1 99), (L1 66, L1 108), (L1 76, L1 98)] = pr 99 107 + (pr 107 99 + (pr 98 108 + (pr 108 98 + 0))) := by kernel_rfl
  rw [e]
  rw [FCc] at h
  have h2 := m_more pr
  simp only [IsMax, List.mem_cons, List.not_mem_nil, or_false, forall_eq_or_imp, forall_eq, List.map_cons, List.map_nil, gainsOf] at h h2
  obtain ⟨_, b⟩ := h
  obtain ⟨d2, b2⟩ := h2
  have s97107 := hs 107 97
  have s97108 := hs 108 97
  have s97109 := hs 109 97
  have s98107 := hs 107 98
  have s98108 := hs 108 98
  have s98109 := hs 109 98
  have s99107 := hs 107 99
  have s99108 := hs 108 99
  have s99109 := hs 109 99
  have s100107 := hs 107 100
  have s100108 := hs 108 100
  have s100109 := hs 109 100
  have hmore : more pr = pr 99 107 + pr 98 108 := by
    refine Int.le_antisymm ?_ ?_
    · rcases d2 with d2 | d2 | d2 | d2 | d2 | d2 <;> omega
    · omega
  refine ⟨by kernel_rfl, by decide, by rw [es]; omega, muT [(99, 107), (107, 99), (98, 108), (108, 98)], mu_of (by kernel_rfl), ?_, ?_⟩
  · intro M' h'
    rw [FdC2] at h'
    have h3 := m_abcd pr
    simp only [IsMax, List.mem_cons, List.not_mem_nil, or_false, forall_eq_or_imp, forall_eq, List.map_cons, List.map_nil, gainsOf] at h' h3
    obtain ⟨d', b'⟩ := h'
    obtain ⟨d3, b3⟩ := h3
    refine Int.le_antisymm ?_ ?_
    · rcases d' with d' | d' | d' | d' | d' <;> omega
    · rcases d3 with d3 | d3 | d3 | d3 | d3 | d3 | d3 | d3 | d3 | d3 | d3 | d3 <;> omega
  · intro M' h'
    rw [FmC2] at h'
    have h3 := m_klm pr
    simp only [IsMax, List.mem_cons, List.not_mem_nil, or_false, forall_eq_or_imp, forall_eq, List.map_cons, List.map_nil, gainsOf] at h' h3
    obtain ⟨d', b'⟩ := h'
    obtain ⟨d3, b3⟩ := h3
    have p97107 := (hn 97 107).1
    have p97108 := (hn 97 108).1
    have p97109 := (hn 97 109).1
    have p98107 := (hn 98 107).1
    have p98108 := (hn 98 108).1
    have p98109 := (hn 98 109).1
    have p99107 := (hn 99 107).1
    have p99108 := (hn 99 108).1
    have p99109 := (hn 99 109).1
    refine Int.le_antisymm ?_ ?_
    · rcases d' with d' | d' | d' | d' | d' | d' | d' | d' | d' | d' <;> omega
    · rcases d3 with d3 | d3 | d3 | d3 | d3 | d3 <;> omega
theorem FdC3 : chainsS (muT [(98, 107), (107, 98), (99, 108), (108, 99)]) pr [97, 98, 99, 107, 108, 100] 6 [] 100 0 = [(0, []), (0 + pr 100 107 - pr 107 98, [(100, 107)]), (0 + pr 100 107 - pr 107 98 + pr 98 108 - pr 108 99, [(100, 107), (98, 108)]), (0 + pr 100 108 - pr 108 99, [(100, 108)]), (0 + pr 100 108 - pr 108 99 + pr 99 107 - pr 107 98, [(100, 108), (99, 107)])] := by rfl
theorem FmC3 : chainsS (muT [(98, 107), (107, 98), (99, 108), (108, 99)]) pr [97, 98, 99, 107, 108, 109] 6 [] 109 0 = [(0, []), (0 + pr 109 97, [(109, 97)]), (0 + pr 109 98 - pr 98 107, [(109, 98)]), (0 + pr 109 98 - pr 98 107 + pr 107 97, [(109, 98), (107, 97)]), (0 + pr 109 98 - pr 98 107 + pr 107 99 - pr 99 108, [(109, 98), (107, 99)]), (0 + pr 109 98 - pr 98 107 + pr 107 99 - pr 99 108 + pr 108 97, [(109, 98), (107, 99), (108, 97)]), (0 + pr 109 99 - pr 99 108, [(109, 99)]), (0 + pr 109 99 - pr 99 108 + pr 108 97, [(109, 99), (108, 97)]), (0 + pr 109 99 - pr 99 108 + pr 108 98 - pr 98 107, [(109, 99), (108, 98)]), (0 + pr 109 99 - pr 99 108 + pr 108 98 - pr 98 107 + pr 107 97, [(109, 99), (108, 98), (107, 97)])] := by rfl
theorem afterC3 (hs : ∀ x q, pr x q = pr q x) (hn : ∀ x q, 0 ≤ pr x q ∧ pr x q ≤ 5) (hc : ¬ (pr 97 107 + pr 98 108 ≥ pr 97 108 + pr 98 107)) {M : Int} (h : IsMax M (gainsOf (chainsS (muT tC) pr [97, 98, 107, 108, 99] 6 [] 99 0))) (hM : M = 0 + pr 99 108 - pr 108 97) : After pr (settleS gC (muT tC) [(99, 108)]) := by
  have e : settleS gC (muT tC) [(99, 108)] = [(L1 66, L1 107), (L1 75, L1 98), (L1 67, L1 108), (L1 76, L1 99)] := by kernel_rfl
  have es : sumOf pr [(L1 66, L1 107), (L1 75, L1 98), (L1 67, L1 108), (L1 76, L1 99)] = pr 98 107 + (pr 107 98 + (pr 99 108 + (pr 108 99 + 0))) := by kernel_rfl
  rw [e]
  rw [FCc] at h
  have h2 := m_more pr
  simp only [IsMax, List.mem_cons, List.not_mem_nil, or_false, forall_eq_or_imp, forall_eq, List.map_cons, List.map_nil, gainsOf] at h h2
  obtain ⟨_, b⟩ := h
  obtain ⟨d2, b2⟩ := h2
  have s97107 := hs 107 97
  have s97108 := hs 108 97
  have s97109 := hs 109 97
  have s98107 := hs 107 98
  have s98108 := hs 108 98
  have s98109 := hs 109 98
  have s99107 := hs 107 99
  have s99108 := hs 108 99
  have s99109 := hs 109 99
  have s100107 := hs 107 100
  have s100108 := hs 108 100
  have s100109 := hs 109 100
  have hmore : more pr = pr 98 107 + pr 99 108 := by
    refine Int.le_antisymm ?_ ?_
    · rcases d2 with d2 | d2 | d2 | d2 | d2 | d2 <;> omega
    · omega
  refine ⟨by kernel_rfl, by decide, by rw [es]; omega, muT [(98, 107), (107, 98), (99, 108), (108, 99)], mu_of (by kernel_rfl), ?_, ?_⟩
  · intro M' h'
    rw [FdC3] at h'
    have h3 := m_abcd pr
    simp only [IsMax, List.mem_cons, List.not_mem_nil, or_false, forall_eq_or_imp, forall_eq, List.map_cons, List.map_nil, gainsOf] at h' h3
    obtain ⟨d', b'⟩ := h'
    obtain ⟨d3, b3⟩ := h3
    refine Int.le_antisymm ?_ ?_
    · rcases d' with d' | d' | d' | d' | d' <;> omega
    · rcases d3 with d3 | d3 | d3 | d3 | d3 | d3 | d3 | d3 | d3 | d3 | d3 | d3 <;> omega
  · intro M' h'
    rw [FmC3] at h'
    have h3 := m_klm pr
    simp only [IsMax, List.mem_cons, List.not_mem_nil, or_false, forall_eq_or_imp, forall_eq, List.map_cons, List.map_nil, gainsOf] at h' h3
    obtain ⟨d', b'⟩ := h'
    obtain ⟨d3, b3⟩ := h3
    have p97107 := (hn 97 107).1
    have p97108 := (hn 97 108).1
    have p97109 := (hn 97 109).1
    have p98107 := (hn 98 107).1
    have p98108 := (hn 98 108).1
    have p98109 := (hn 98 109).1
    have p99107 := (hn 99 107).1
    have p99108 := (hn 99 108).1
    have p99109 := (hn 99 109).1
    refine Int.le_antisymm ?_ ?_
    · rcases d' with d' | d' | d' | d' | d' | d' | d' | d' | d' | d' <;> omega
    · rcases d3 with d3 | d3 | d3 | d3 | d3 | d3 <;> omega
theorem FdC4 : chainsS (muT [(99, 108), (108, 99), (97, 107), (107, 97)]) pr [97, 98, 99, 107, 108, 100] 6 [] 100 0 = [(0, []), (0 + pr 100 107 - pr 107 97, [(100, 107)]), (0 + pr 100 107 - pr 107 97 + pr 97 108 - pr 108 99, [(100, 107), (97, 108)]), (0 + pr 100 108 - pr 108 99, [(100, 108)]), (0 + pr 100 108 - pr 108 99 + pr 99 107 - pr 107 97, [(100, 108), (99, 107)])] := by rfl
theorem FmC4 : chainsS (muT [(99, 108), (108, 99), (97, 107), (107, 97)]) pr [97, 98, 99, 107, 108, 109] 6 [] 109 0 = [(0, []), (0 + pr 109 97 - pr 97 107, [(109, 97)]), (0 + pr 109 97 - pr 97 107 + pr 107 98, [(109, 97), (107, 98)]), (0 + pr 109 97 - pr 97 107 + pr 107 99 - pr 99 108, [(109, 97), (107, 99)]), (0 + pr 109 97 - pr 97 107 + pr 107 99 - pr 99 108 + pr 108 98, [(109, 97), (107, 99), (108, 98)]), (0 + pr 109 98, [(109, 98)]), (0 + pr 109 99 - pr 99 108, [(109, 99)]), (0 + pr 109 99 - pr 99 108 + pr 108 97 - pr 97 107, [(109, 99), (108, 97)]), (0 + pr 109 99 - pr 99 108 + pr 108 97 - pr 97 107 + pr 107 98, [(109, 99), (108, 97), (107, 98)]), (0 + pr 109 99 - pr 99 108 + pr 108 98, [(109, 99), (108, 98)])] := by rfl
theorem afterC4 (hs : ∀ x q, pr x q = pr q x) (hn : ∀ x q, 0 ≤ pr x q ∧ pr x q ≤ 5) (hc : ¬ (pr 97 107 + pr 98 108 ≥ pr 97 108 + pr 98 107)) {M : Int} (h : IsMax M (gainsOf (chainsS (muT tC) pr [97, 98, 107, 108, 99] 6 [] 99 0))) (hM : M = 0 + pr 99 108 - pr 108 97 + pr 97 107 - pr 107 98) : After pr (settleS gC (muT tC) [(99, 108), (97, 107)]) := by
  have e : settleS gC (muT tC) [(99, 108), (97, 107)] = [(L1 67, L1 108), (L1 76, L1 99), (L1 65, L1 107), (L1 75, L1 97)] := by kernel_rfl
  have es : sumOf pr [(L1 67, L1 108), (L1 76, L1 99), (L1 65, L1 107), (L1 75, L1 97)] = pr 99 108 + (pr 108 99 + (pr 97 107 + (pr 107 97 + 0))) := by kernel_rfl
  rw [e]
  rw [FCc] at h
  have h2 := m_more pr
  simp only [IsMax, List.mem_cons, List.not_mem_nil, or_false, forall_eq_or_imp, forall_eq, List.map_cons, List.map_nil, gainsOf] at h h2
  obtain ⟨_, b⟩ := h
  obtain ⟨d2, b2⟩ := h2
  have s97107 := hs 107 97
  have s97108 := hs 108 97
  have s97109 := hs 109 97
  have s98107 := hs 107 98
  have s98108 := hs 108 98
  have s98109 := hs 109 98
  have s99107 := hs 107 99
  have s99108 := hs 108 99
  have s99109 := hs 109 99
  have s100107 := hs 107 100
  have s100108 := hs 108 100
  have s100109 := hs 109 100
  have hmore : more pr = pr 99 108 + pr 97 107 := by
    refine Int.le_antisymm ?_ ?_
    · rcases d2 with d2 | d2 | d2 | d2 | d2 | d2 <;> omega
    · omega
  refine ⟨by kernel_rfl, by decide, by rw [es]; omega, muT [(99, 108), (108, 99), (97, 107), (107, 97)], mu_of (by kernel_rfl), ?_, ?_⟩
  · intro M' h'
    rw [FdC4] at h'
    have h3 := m_abcd pr
    simp only [IsMax, List.mem_cons, List.not_mem_nil, or_false, forall_eq_or_imp, forall_eq, List.map_cons, List.map_nil, gainsOf] at h' h3
    obtain ⟨d', b'⟩ := h'
    obtain ⟨d3, b3⟩ := h3
    refine Int.le_antisymm ?_ ?_
    · rcases d' with d' | d' | d' | d' | d' <;> omega
    · rcases d3 with d3 | d3 | d3 | d3 | d3 | d3 | d3 | d3 | d3 | d3 | d3 | d3 <;> omega
  · intro M' h'
    rw [FmC4] at h'
    have h3 := m_klm pr
    simp only [IsMax, List.mem_cons, List.not_mem_nil, or_false, forall_eq_or_imp, forall_eq, List.map_cons, List.map_nil, gainsOf] at h' h3
    obtain ⟨d', b'⟩ := h'
    obtain ⟨d3, b3⟩ := h3
    have p97107 := (hn 97 107).1
    have p97108 := (hn 97 108).1
    have p97109 := (hn 97 109).1
    have p98107 := (hn 98 107).1
    have p98108 := (hn 98 108).1
    have p98109 := (hn 98 109).1
    have p99107 := (hn 99 107).1
    have p99108 := (hn 99 108).1
    have p99109 := (hn 99 109).1
    refine Int.le_antisymm ?_ ?_
    · rcases d' with d' | d' | d' | d' | d' | d' | d' | d' | d' | d' <;> omega
    · rcases d3 with d3 | d3 | d3 | d3 | d3 | d3 <;> omega
theorem shap_d (hs : ∀ x q, pr x q = pr q x) : mostV pr [107, 108] [97, 98, 99, 100] - more pr ≤ mostV pr [107, 108] [97, 98, 100] - base pr := by
  have h1 := m_base pr
  have h2 := m_more pr
  have h3 := m_abcd pr
  have h4 := m_abd pr
  simp only [IsMax, List.mem_cons, List.not_mem_nil, or_false, forall_eq_or_imp, forall_eq, List.map_cons, List.map_nil, gainsOf] at h1 h2 h3 h4
  obtain ⟨d1, b1⟩ := h1
  obtain ⟨d2, b2⟩ := h2
  obtain ⟨d3, b3⟩ := h3
  obtain ⟨d4, b4⟩ := h4
  clear d2 d4
  rcases d1 with d1 | d1 <;> rcases d3 with d3 | d3 | d3 | d3 | d3 | d3 | d3 | d3 | d3 | d3 | d3 | d3 <;> omega
theorem shap_m (hs : ∀ x q, pr x q = pr q x) (hn : ∀ x q, 0 ≤ pr x q ∧ pr x q ≤ 5) : mostV pr [107, 108, 109] [97, 98, 99] - more pr ≥ mostV pr [97, 98] [107, 108, 109] - base pr := by
  have h1 := m_base pr
  have h2 := m_more pr
  have h3 := m_klm pr
  have h4 := m_abm pr
  simp only [IsMax, List.mem_cons, List.not_mem_nil, or_false, forall_eq_or_imp, forall_eq, List.map_cons, List.map_nil, gainsOf] at h1 h2 h3 h4
  obtain ⟨d1, b1⟩ := h1
  obtain ⟨d2, b2⟩ := h2
  obtain ⟨d3, b3⟩ := h3
  obtain ⟨d4, b4⟩ := h4
  clear d1 d3
  have s97107 := hs 107 97
  have s97108 := hs 108 97
  have s97109 := hs 109 97
  have s98107 := hs 107 98
  have s98108 := hs 108 98
  have s98109 := hs 109 98
  have s99107 := hs 107 99
  have s99108 := hs 108 99
  have s99109 := hs 109 99
  have s100107 := hs 107 100
  have s100108 := hs 108 100
  have s100109 := hs 109 100
  have p97107 := (hn 97 107).1
  have p97108 := (hn 97 108).1
  have p97109 := (hn 97 109).1
  have p98107 := (hn 98 107).1
  have p98108 := (hn 98 108).1
  have p98109 := (hn 98 109).1
  have p99107 := (hn 99 107).1
  have p99108 := (hn 99 108).1
  have p99109 := (hn 99 109).1
  rcases d2 with d2 | d2 | d2 | d2 | d2 | d2 <;> rcases d4 with d4 | d4 | d4 | d4 | d4 | d4 <;> omega
/-- the plain law -/
structure Plain (pr : Nat → Nat → Int) (g : List (Str × Str)) (mu : Nat → Nat) : Prop where
  pLen : g.length ≤ 50
  pMu : Mu g mu
  pEnds : ∀ p ∈ chainsS mu pr [97, 98, 107, 108, 99] 6 [] 99 0, p.2.length ≤ 8 ∧ ∀ q ∈ p.2, q.1 ∈ ltrs ∧ q.2 ∈ ltrs ∧ mu q.2 ≠ 45
  pD : ∀ M, IsMax M (gainsOf (chainsS mu pr [97, 98, 107, 108, 100] 6 [] 100 0)) → M = mostV pr [107, 108] [97, 98, 100] - base pr
  pM : ∀ M, IsMax M (gainsOf (chainsS mu pr [97, 98, 107, 108, 109] 6 [] 109 0)) → M = mostV pr [97, 98] [107, 108, 109] - base pr
  pC : ∀ M ch r, IsMax M (gainsOf (chainsS mu pr [97, 98, 107, 108, 99] 6 [] 99 0)) → bestsOf (chainsS mu pr [97, 98, 107, 108, 99] 6 [] 99 0) M = ch :: r → M = more pr - base pr ∧ After pr (settleS g mu ch)

theorem plainS (hs : ∀ x q, pr x q = pr q x) (hn : ∀ x q, 0 ≤ pr x q ∧ pr x q ≤ 5) (hc : pr 97 107 + pr 98 108 ≥ pr 97 108 + pr 98 107) : Plain pr gS (muT tS) where
  pLen := by decide
  pMu := muS
  pEnds := by
    rw [FSc]
    intro p hp
    simp only [List.mem_cons, List.not_mem_nil, or_false] at hp
    rcases hp with rfl | rfl | rfl | rfl | rfl
    all_goals (dsimp only; exact ⟨by decide, by decide⟩)
  pD := fun M h => aloneSd hs hn hc h
  pM := fun M h => aloneSm hs hn hc h
  pC := fun M ch r h hb => by
    refine ⟨aloneSc hs hn hc h, ?_⟩
    have hm : ch ∈ bestsOf (chainsS (muT tS) pr [97, 98, 107, 108, 99] 6 [] 99 0) M := by rw [hb]; exact .head _
    obtain ⟨p, hp, rfl⟩ := List.mem_map.mp hm
    obtain ⟨hp1, hp2⟩ := List.mem_filter.mp hp
    rw [FSc] at hp1
    have hp2 := beq_iff_eq.mp hp2
    simp only [List.mem_cons, List.not_mem_nil, or_false] at hp1
    rcases hp1 with rfl | rfl | rfl | rfl | rfl
    · exact afterS0 hs hn hc h hp2.symm
    · exact afterS1 hs hn hc h hp2.symm
    · exact afterS2 hs hn hc h hp2.symm
    · exact afterS3 hs hn hc h hp2.symm
    · exact afterS4 hs hn hc h hp2.symm
theorem plainC (hs : ∀ x q, pr x q = pr q x) (hn : ∀ x q, 0 ≤ pr x q ∧ pr x q ≤ 5) (hc : ¬ (pr 97 107 + pr 98 108 ≥ pr 97 108 + pr 98 107)) : Plain pr gC (muT tC) where
  pLen := by decide
  pMu := muC
  pEnds := by
    rw [FCc]
    intro p hp
    simp only [List.mem_cons, List.not_mem_nil, or_false] at hp
    rcases hp with rfl | rfl | rfl | rfl | rfl
    all_goals (dsimp only; exact ⟨by decide, by decide⟩)
  pD := fun M h => aloneCd hs hn hc h
  pM := fun M h => aloneCm hs hn hc h
  pC := fun M ch r h hb => by
    refine ⟨aloneCc hs hn hc h, ?_⟩
    have hm : ch ∈ bestsOf (chainsS (muT tC) pr [97, 98, 107, 108, 99] 6 [] 99 0) M := by rw [hb]; exact .head _
    obtain ⟨p, hp, rfl⟩ := List.mem_map.mp hm
    obtain ⟨hp1, hp2⟩ := List.mem_filter.mp hp
    rw [FCc] at hp1
    have hp2 := beq_iff_eq.mp hp2
    simp only [List.mem_cons, List.not_mem_nil, or_false] at hp1
    rcases hp1 with rfl | rfl | rfl | rfl | rfl
    · exact afterC0 hs hn hc h hp2.symm
    · exact afterC1 hs hn hc h hp2.symm
    · exact afterC2 hs hn hc h hp2.symm
    · exact afterC3 hs hn hc h hp2.symm
    · exact afterC4 hs hn hc h hp2.symm
end

/-! part F29 -/
section
variable {c : Cx} {fs fs' : Fs} {ld ld' : Ld} {s : Shared} {A : Around} {env : Env} {L : Addr} {m : Str → Option Value} {sc : Scope} {cd : Value}
variable {n : Nat} {Q : Value → Shared → Prop}

theorem rTup2 {elts : List PySem.Expr} {k : Nat} {pos : Pos} {Q : Value → Shared → Prop} {x y : Str} {k1 k2 : Nat} {p1 p2 : Pos} (I : St c fs ld s) (he : elts = [.Constant (.str x) k1 p1, .Constant (.str y) k2 p2])
    (h : ∀ T t u s', St c fs ((T, tup #[.str x t, .str y u]) :: ld) s' → Q (.ref T) s') : wpAny c.MD A (eval (.Tuple elts k pos) env) Q NoE s := by
  subst he
  refine rTup ?_
  repeat (walk_at "st")
  refine ⟨_, _, by assumption, Nat.le_of_ble_eq_true rfl, ?_⟩
  intro T s6 I6
  exact h T _ _ s6 I6

/-- a written list of four pairs of letters -/
theorem rPairs4 {k1 k1a k1b k2 k2a k2b k3 k3a k3b k4 k4a k4b : Nat} {p1 p1a p1b p2 p2a p2b p3 p3a p3b p4 p4a p4b pos : Pos} {a1 b1 a2 b2 a3 b3 a4 b4 : Str} (I : St c fs ld s)
    (h : ∀ D items Ts vals new s', St c fs ((D, listO items 0) :: (new ++ ld)) s' → Holds ((D, listO items 0) :: (new ++ ld)) items [(a1, b1), (a2, b2), (a3, b3), (a4, b4)] Ts vals → Q (.ref D) s') :
    wpAny c.MD A (eval (.List [.Tuple [.Constant (.str a1) k1a p1a, .Constant (.str b1) k1b p1b] k1 p1, .Tuple [.Constant (.str a2) k2a p2a, .Constant (.str b2) k2b p2b] k2 p2, .Tuple [.Constant (.str a3) k3a p3a, .Constant (.str b3) k3b p3b] k3 p3, .Tuple [.Constant (.str a4) k4a p4a, .Constant (.str b4) k4b p4b] k4 p4] pos) env) Q NoE s := by
  refine rList ?_
  refine wpAny_items_cons ?_
  refine rTup2 I rfl fun T1 t1 u1 s1 I1 => ?_
  refine wpAny_items_cons ?_
  refine rTup2 I1 rfl fun T2 t2 u2 s2 I2 => ?_
  refine wpAny_items_cons ?_
  refine rTup2 I2 rfl fun T3 t3 u3 s3 I3 => ?_
  refine wpAny_items_cons ?_
  refine rTup2 I3 rfl fun T4 t4 u4 s4 I4 => ?_
  refine wpAny_items_nil ?_
  refine ⟨_, _, I4, Nat.le_of_ble_eq_true rfl, ?_⟩
  intro D s5 I5
  refine h D #[.ref T1, .ref T2, .ref T3, .ref T4] (fun j => match j with | 0 => T1 | 1 => T2 | 2 => T3 | _ => T4) (fun j => match j with | 0 => #[.str a1 t1, .str b1 u1] | 1 => #[.str a2 t2, .str b2 u2] | 2 => #[.str a3 t3, .str b3 u3] | _ => #[.str a4 t4, .str b4 u4])
    [(T4, tup #[.str a4 t4, .str b4 u4]), (T3, tup #[.str a3 t3, .str b3 u3]), (T2, tup #[.str a2 t2, .str b2 u2]), (T1, tup #[.str a1 t1, .str b1 u1])] s5 I5 ⟨rfl, fun j hj => ?_, fun j hj => ?_, fun j p hp => ?_⟩
  · match j, hj with
    | 0, _ | 1, _ | 2, _ | 3, _ => rfl
  · match j, hj with
    | 0, _ => exact .tail _ (.tail _ (.tail _ (.tail _ (.head _))))
    | 1, _ => exact .tail _ (.tail _ (.tail _ (.head _)))
    | 2, _ => exact .tail _ (.tail _ (.head _))
    | 3, _ => exact .tail _ (.head _)
  · match j, hp with
    | 0, hp => cases hp; exact ⟨t1, u1, rfl⟩
    | 1, hp => cases hp; exact ⟨t2, u2, rfl⟩
    | 2, hp => cases hp; exact ⟨t3, u3, rfl⟩
    | 3, hp => cases hp; exact ⟨t4, u4, rfl⟩

theorem aS : [(Str.ofString "A", Str.ofString "k"), (Str.ofString "K", Str.ofString "a"), (Str.ofString "B", Str.ofString "l"), (Str.ofString "L", Str.ofString "b")] = gS := by kernel_rfl
theorem aC : [(Str.ofString "A", Str.ofString "l"), (Str.ofString "L", Str.ofString "a"), (Str.ofString "B", Str.ofString "k"), (Str.ofString "K", Str.ofString "b")] = gC := by kernel_rfl
theorem okgS : ∀ p ∈ gS, OkS p.1 ∧ OkS p.2 := by
  intro p hp
  simp only [gS, List.mem_cons, List.not_mem_nil, or_false] at hp
  rcases hp with rfl | rfl | rfl | rfl <;> exact ⟨⟨_, by decide, rfl⟩, ⟨_, by decide, rfl⟩⟩
theorem okgC : ∀ p ∈ gC, OkS p.1 ∧ OkS p.2 := by
  intro p hp
  simp only [gC, List.mem_cons, List.not_mem_nil, or_false] at hp
  rcases hp with rfl | rfl | rfl | rfl <;> exact ⟨⟨_, by decide, rfl⟩, ⟨_, by decide, rfl⟩⟩
theorem w_abkl : Str.ofString "abkl" = ⟨[97, 98, 107, 108].toArray⟩ := by kernel_rfl
theorem w_abckl : Str.ofString "abckl" = ⟨[97, 98, 99, 107, 108].toArray⟩ := by kernel_rfl
theorem w_kl : Str.ofString "kl" = ⟨[107, 108].toArray⟩ := by kernel_rfl
theorem w_klm : Str.ofString "klm" = ⟨[107, 108, 109].toArray⟩ := by kernel_rfl
theorem w_ab : Str.ofString "ab" = ⟨[97, 98].toArray⟩ := by kernel_rfl
theorem w_abc : Str.ofString "abc" = ⟨[97, 98, 99].toArray⟩ := by kernel_rfl
theorem w_abd : Str.ofString "abd" = ⟨[97, 98, 100].toArray⟩ := by kernel_rfl
theorem w_abcd : Str.ofString "abcd" = ⟨[97, 98, 99, 100].toArray⟩ := by kernel_rfl
theorem w_d : Str.ofString "d" = L1 100 := by kernel_rfl
theorem w_m : Str.ofString "m" = L1 109 := by kernel_rfl
theorem w_c : Str.ofString "c" = L1 99 := by kernel_rfl
theorem w_ak : Str.ofString "ak" = L2 97 107 := by kernel_rfl
theorem w_al : Str.ofString "al" = L2 97 108 := by kernel_rfl
theorem w_bk : Str.ofString "bk" = L2 98 107 := by kernel_rfl
theorem w_bl : Str.ofString "bl" = L2 98 108 := by kernel_rfl
theorem empty_ne : (Str.ofString "" != Str.ofString "") = false := by kernel_rfl


theorem rSeq {st : Stmt} {rest : List Stmt} {R : Flow → Shared → Prop} (Inv : Shared → Prop) (h1 : wpAny c.MD A (exec st env) (fun f s' => f = .next ∧ Inv s') NoE s)
    (h2 : ∀ s', Inv s' → wpAny c.MD A (execs rest env) R NoE s') : wpAny c.MD A (execs (st :: rest) env) R NoE s := by
  refine wpAny_execs_cons (wpAny_mono h1 (fun f s' h => ?_) fun _ _ z => z)
  obtain ⟨rfl, h⟩ := h
  exact h2 s' h

structure LawSc (sc : Scope) : Prop where
  k : sc.kind = .function
  price : sc.names.lookup (Str.ofString "price") = some .cell
  deals : sc.names.lookup (Str.ofString "deals") = some .local
  adds : sc.names.lookup (Str.ofString "_law_adds") = some .globalImplicit
  most : sc.names.lookup (Str.ofString "_law_most") = some .globalImplicit
  settled : sc.names.lookup (Str.ofString "_law_settled") = some .globalImplicit

variable {oP : Obj} {Pa : Addr} {es : Array DictEntry} {ep : Nat} {pr : Nat → Nat → Int} {Hd Dd : Addr} {dd : Obj} {Ll : Addr} {g : List (Str × Str)} {vals : List (Str × Int)} {mu : Nat → Nat} {th : List Nat}
/-- where the law stands between two of its statements -/
structure LawAt (c : Cx) (fs : Fs) (L : Addr) (oP : Obj) (Pa : Addr) (es : Array DictEntry) (ep : Nat) (pr : Nat → Nat → Int) (Hd Dd : Addr) (dd : Obj) (Ll : Addr) (g : List (Str × Str)) (vals : List (Str × Int)) (ld : Ld) (m : Str → Option Value) (s : Shared) : Prop where
  st : St c ((L, m) :: fs) ld s
  deals : m (Str.ofString "deals") = some (.ref Hd)
  vals : ∀ p ∈ vals, ∃ t, m p.1 = some (.int p.2 t)
  cell : (L + 1, oP) ∈ ld
  price : Price c ld Pa es ep pr
  dl : ∃ dit de Td vd, Deals ld Hd Dd dd Ll dit de g Td vd

theorem rLawMost {a b : Str} {p0 p1 p2 p3 pos : Pos} {k2 k3 : Nat} {few many : List Nat} (ok : c.Ok) (hsc : LawSc sc) (N : EnvIs env L sc cd) (hc : env.cells = [(Str.ofString "price", L + 1)]) (hoP : oP.data = .cell (some (.ref Pa))) (H : LawAt c fs L oP Pa es ep pr Hd Dd dd Ll g vals ld m s) (hA : AOk (n + 15) A)
    (ha : a = ⟨few.toArray⟩) (hb : b = ⟨many.toArray⟩) (h1 : ∀ q ∈ few, q ∈ ltrs) (h2 : ∀ q ∈ many, q ∈ ltrs) (h3 : ∀ f ∈ few, ∀ x ∈ many, isK x = isA f) (h4 : many.Nodup) (h5 : few.length ≤ many.length) (h6 : many.length ≤ 10)
    (h : ∀ t s', LawAt c fs L oP Pa es ep pr Hd Dd dd Ll g vals ld m s' → Q (.int (mostV pr few many) t) s') :
    wpAny c.MD A (eval (.Call (.Name (Str.ofString "_law_most") p0) [.Name (Str.ofString "price") p1, .Constant (.str a) k2 p2, .Constant (.str b) k3 p3] [] pos) env) Q NoE s := by
  subst ha hb
  refine wpAny_Call_Name_kw ?_
  refine rGlob H.st N hsc.k hsc.most (by decide) (mg_law_most ok) ?_
  refine rCallRef (kg ok rfl rfl) ?_
  refine wpAny_items_cons ?_
  refine rCell H.st N hc H.cell hoP ?_ hsc.k hsc.price
  have I := H.st
  repeat (walk_at "st")
  refine ⟨⟨_, _, by assumption⟩, ?_⟩
  refine most_ct ok few _ _ _ _ many _ _ n _ (by assumption) (hA.mono (by omega)) H.price h1 h2 h3 h4 h5 h6 (by omega) ?_
  intro t s' I'
  exact h t s' ⟨I', H.deals, H.vals, H.cell, H.price, H.dl⟩

theorem LawAt.put {nm : Str} {v : Int} {t : Tok} {R : Unit → Shared → Prop} (hsc : LawSc sc) (N : EnvIs env L sc cd) (H : LawAt c fs L oP Pa es ep pr Hd Dd dd Ll g vals ld m s) (hnm : sc.names.lookup nm = some .local) (hnd : decide (Str.ofString "deals" = nm) = false) (hv : (vals.all fun p => decide (p.1 ≠ nm)) = true)
    (h : ∀ m' s', LawAt c fs L oP Pa es ep pr Hd Dd dd Ll g ((nm, v) :: vals) ld m' s' → R () s') : wpAny c.MD A (storeName env nm (.int v t)) R NoE s := by
  refine rStore H.st N hsc.k hnm ?_
  intro s' I'
  refine h _ s' ⟨I', upd_other hnd H.deals, fun p hp => ?_, H.cell, H.price, H.dl⟩
  rcases List.mem_cons.mp hp with rfl | hp
  · exact ⟨t, upd_same⟩
  · obtain ⟨t', ht⟩ := H.vals p hp
    have hne := of_decide_eq_true (List.all_eq_true.mp hv p hp)
    exact ⟨t', upd_other (decide_eq_false hne) ht⟩

theorem aAdds {nm a b : Str} {x : Nat} {p0 p1 p2 p3 p4 p5 p6 p7 : Pos} {k4 k5 : Nat} {R : Flow → Shared → Prop} (ok : c.Ok) (hsc : LawSc sc) (N : EnvIs env L sc cd) (hc : env.cells = [(Str.ofString "price", L + 1)]) (hoP : oP.data = .cell (some (.ref Pa))) (H : LawAt c fs L oP Pa es ep pr Hd Dd dd Ll g vals ld m s) (hA : AOk (n + 15) A)
    (hM : Mu g mu) (ha : a = ⟨th.toArray⟩) (hb : b = L1 x) (hx : x ∈ ltrs) (hth : ∀ q ∈ th, q ∈ ltrs) (hth6 : th.length ≤ 5) (hnm : sc.names.lookup nm = some .local) (hnd : decide (Str.ofString "deals" = nm) = false) (hv : (vals.all fun p => decide (p.1 ≠ nm)) = true)
    (h : ∀ M m' s', IsMax M (gainsOf (chainsS mu pr (th ++ [x]) 6 [] x 0)) → LawAt c fs L oP Pa es ep pr Hd Dd dd Ll g ((nm, M) :: vals) ld m' s' → R .next s') :
    wpAny c.MD A (exec (.Assign [.Name nm p0] (.Call (.Name (Str.ofString "_law_adds") p1) [.Name (Str.ofString "price") p2, .Name (Str.ofString "deals") p3, .Constant (.str a) k4 p4, .Constant (.str b) k5 p5] [] p6) p7) env) R NoE s := by
  subst ha hb
  refine wpAny_Assign_Name ?_ (by rfl)
  refine wpAny_Call_Name_kw ?_
  refine rGlob H.st N hsc.k hsc.adds (by decide) (mg_law_adds ok) ?_
  refine rCallRef (kg ok rfl rfl) ?_
  refine wpAny_items_cons ?_
  refine rCell H.st N hc H.cell hoP ?_ hsc.k hsc.price
  refine wpAny_items_cons ?_
  refine rLoc H.st N hsc.k hsc.deals (by decide) H.deals ?_
  have I := H.st
  repeat (walk_at "st")
  refine ⟨⟨_, _, by assumption⟩, ?_⟩
  obtain ⟨dit, de, Td, vd, D⟩ := H.dl
  refine adds_ct (n := n) ok (by assumption) hA D hM H.price hx hth hth6 ?_
  intro M t s' I' hM1 hM2
  exact LawAt.put hsc N ⟨I', H.deals, H.vals, H.cell, H.price, dit, de, Td, vd, D⟩ hnm hnd hv fun m' s'' H' => h M m' s'' ⟨hM1, hM2⟩ H'
end

/-! part F30 -/
section
variable {c : Cx} {fs fs' : Fs} {ld ld' : Ld} {s : Shared} {A : Around} {env : Env} {L : Addr} {m : Str → Option Value} {sc : Scope} {cd : Value}
variable {n : Nat} {Q : Value → Shared → Prop}
variable {oP : Obj} {Pa : Addr} {es : Array DictEntry} {ep : Nat} {pr : Nat → Nat → Int} {Hd Dd : Addr} {dd : Obj} {Ll : Addr} {g : List (Str × Str)} {vals : List (Str × Int)} {mu : Nat → Nat} {th : List Nat}

theorem St.neD {a b : Addr} {o o' : Obj} (I : St c fs ld s) (h1 : (a, o) ∈ ld) (h2 : (b, o') ∈ ld) (ho : o.data ≠ o'.data) : a ≠ b := fun h => by
  have a := I.ob _ h1
  have b := I.ob _ h2
  dsimp only at a b
  rw [h, b] at a
  exact ho (by rw [Option.some.inj a])

theorem LawAt.more (H : LawAt c fs L oP Pa es ep pr Hd Dd dd Ll g vals ld m s) {s' : Shared} (I : St c ((L, m) :: fs) ld' s') (hm : ∀ p ∈ ld, p ∈ ld') : LawAt c fs L oP Pa es ep pr Hd Dd dd Ll g vals ld' m s' :=
  ⟨I, H.deals, H.vals, hm _ H.cell, H.price.mono hm, let ⟨dit, de, Td, vd, D⟩ := H.dl; ⟨dit, de, Td, vd, D.mono hm⟩⟩
theorem LawAt.less (H : LawAt c fs L oP Pa es ep pr Hd Dd dd Ll g vals ld m s) {s' : Shared} (I : St c ((L, m) :: fs) ld s') : LawAt c fs L oP Pa es ep pr Hd Dd dd Ll g vals ld m s' := H.more I fun _ h => h

set_option maxHeartbeats 1000000 in
theorem aSettled {nm a b : Str} {x : Nat} {p0 p1 p2 p3 p4 p5 p6 p7 : Pos} {k4 k5 : Nat} {R : Flow → Shared → Prop} (ok : c.Ok) (hsc : LawSc sc) (N : EnvIs env L sc cd) (hc : env.cells = [(Str.ofString "price", L + 1)]) (hoP : oP.data = .cell (some (.ref Pa))) (H : LawAt c fs L oP Pa es ep pr Hd Dd dd Ll g vals ld m s) (hA : AOk (n + 15) A)
    (hM : Mu g mu) (ha : a = ⟨th.toArray⟩) (hb : b = L1 x) (hx : x ∈ ltrs) (hth : ∀ q ∈ th, q ∈ ltrs) (hth6 : th.length ≤ 5) (hg50 : g.length ≤ 50)
    (hF : ∀ p ∈ chainsS mu pr (th ++ [x]) 6 [] x 0, p.2.length ≤ 8 ∧ ∀ q ∈ p.2, q.1 ∈ ltrs ∧ q.2 ∈ ltrs ∧ mu q.2 ≠ 45)
    (hnm : sc.names.lookup nm = some .local) (hnd : decide (Str.ofString "deals" = nm) = false) (hv : (vals.all fun p => decide (p.1 ≠ nm)) = true)
    (h : ∀ M ch r ld' m' s', IsMax M (gainsOf (chainsS mu pr (th ++ [x]) 6 [] x 0)) → bestsOf (chainsS mu pr (th ++ [x]) 6 [] x 0) M = ch :: r → LawAt c fs L oP Pa es ep pr Hd Dd dd Ll (settleS g mu ch) ((nm, M) :: vals) ld' m' s' → R .next s') :
    wpAny c.MD A (exec (.Assign [.Name nm p0] (.Call (.Name (Str.ofString "_law_settled") p1) [.Name (Str.ofString "price") p2, .Name (Str.ofString "deals") p3, .Constant (.str a) k4 p4, .Constant (.str b) k5 p5] [] p6) p7) env) R NoE s := by
  subst ha hb
  refine wpAny_Assign_Name ?_ (by rfl)
  refine wpAny_Call_Name_kw ?_
  refine rGlob H.st N hsc.k hsc.settled (by decide) (mg_law_settled ok) ?_
  refine rCallRef (kg ok rfl rfl) ?_
  refine wpAny_items_cons ?_
  refine rCell H.st N hc H.cell hoP ?_ hsc.k hsc.price
  refine wpAny_items_cons ?_
  refine rLoc H.st N hsc.k hsc.deals (by decide) H.deals ?_
  have I := H.st
  repeat (walk_at "st")
  refine ⟨⟨_, _, by assumption⟩, ?_⟩
  obtain ⟨dit, de, Td, vd, D⟩ := H.dl
  refine settled_ct (n := n) ok (by assumption) hA D hM H.price hx hth hth6 hg50 hF ?_
  intro M ch r t ld' dit' de' Td' vd' s' hM1 hM2 hB hm D' I'
  have hP1 : Pa ≠ Ll := I.neO H.price.ob D.ls (by show Value.type "dict" ≠ Value.type "list"; decide)
  have hL1 : L + 1 ≠ Ll := I.neD H.cell D.ls (by rw [hoP]; exact nofun)
  refine LawAt.put hsc N (ld := ld') (g := settleS g mu ch) ⟨I', H.deals, H.vals, hm _ H.cell hL1, ⟨hm _ H.price.ob hP1, H.price.keys, H.price.get⟩, dit', de', Td', vd', D'⟩ hnm hnd hv fun m' s'' H' => h M ch r ld' m' s'' ⟨hM1, hM2⟩ hB H'

theorem aMost {nm a b : Str} {p0 p1 p2 p3 pos p7 p8 : Pos} {k2 k3 : Nat} {few many : List Nat} {R : Flow → Shared → Prop} (ok : c.Ok) (hsc : LawSc sc) (N : EnvIs env L sc cd) (hc : env.cells = [(Str.ofString "price", L + 1)]) (hoP : oP.data = .cell (some (.ref Pa))) (H : LawAt c fs L oP Pa es ep pr Hd Dd dd Ll g vals ld m s) (hA : AOk (n + 15) A)
    (ha : a = ⟨few.toArray⟩) (hb : b = ⟨many.toArray⟩) (h1 : ∀ q ∈ few, q ∈ ltrs) (h2 : ∀ q ∈ many, q ∈ ltrs) (h3 : ∀ f ∈ few, ∀ x ∈ many, isK x = isA f) (h4 : many.Nodup) (h5 : few.length ≤ many.length) (h6 : many.length ≤ 10)
    (hnm : sc.names.lookup nm = some .local) (hnd : decide (Str.ofString "deals" = nm) = false) (hv : (vals.all fun p => decide (p.1 ≠ nm)) = true)
    (h : ∀ m' s', LawAt c fs L oP Pa es ep pr Hd Dd dd Ll g ((nm, mostV pr few many) :: vals) ld m' s' → R .next s') :
    wpAny c.MD A (exec (.Assign [.Name nm p0] (.Call (.Name (Str.ofString "_law_most") p1) [.Name (Str.ofString "price") p2, .Constant (.str a) k2 p3, .Constant (.str b) k3 pos] [] p8) p7) env) R NoE s := by
  refine wpAny_Assign_Name ?_ (by rfl)
  refine rLawMost ok hsc N hc hoP H hA ha hb h1 h2 h3 h4 h5 h6 ?_
  intro t s' H'
  exact LawAt.put hsc N H' hnm hnd hv fun m' s'' H'' => h m' s'' H''

theorem rVal {nm : Str} {v : Int} {pos : Pos} (hsc : LawSc sc) (N : EnvIs env L sc cd) (H : LawAt c fs L oP Pa es ep pr Hd Dd dd Ll g vals ld m s) (hnm : sc.names.lookup nm = some .local) (hdb : (nm == ("__debug__" : Str)) = false) (hv : (nm, v) ∈ vals) (h : ∀ t, Q (.int v t) s) : wpAny c.MD A (eval (.Name nm pos) env) Q NoE s := by
  obtain ⟨t, ht⟩ := H.vals _ hv
  exact rLoc H.st N hsc.k hnm hdb ht (h t)

theorem units_ok {n : Nat} (hA : AOk n A) : A.units + 64 < cLine := by
  have := hA.un
  exact Nat.lt_of_lt_of_le (by omega : A.units + 64 < 9100) (by decide)

set_option maxHeartbeats 1000000 in
theorem aCheck {x1 x2 y1 y2 a1 b1 a2 b2 : Str} {v1 v2 w1 w2 : Int} {f1 m1 f2 m2 : List Nat} {q1 q2 q3 q4 q5 q6 q7 q8 q9 q10 q11 q12 q13 q14 q15 q16 q17 q18 q19 q20 : Pos} {k1 k2 k3 k4 : Nat} {body : List Stmt} {R : Flow → Shared → Prop}
    (ok : c.Ok) (hsc : LawSc sc) (N : EnvIs env L sc cd) (hc : env.cells = [(Str.ofString "price", L + 1)]) (hoP : oP.data = .cell (some (.ref Pa))) (H : LawAt c fs L oP Pa es ep pr Hd Dd dd Ll g vals ld m s) (hA : AOk (n + 15) A)
    (hx1 : sc.names.lookup x1 = some .local) (hx2 : sc.names.lookup x2 = some .local) (hy1 : sc.names.lookup y1 = some .local) (hy2 : sc.names.lookup y2 = some .local)
    (dx1 : (x1 == ("__debug__" : Str)) = false) (dx2 : (x2 == ("__debug__" : Str)) = false) (dy1 : (y1 == ("__debug__" : Str)) = false) (dy2 : (y2 == ("__debug__" : Str)) = false)
    (hv1 : (x1, v1) ∈ vals) (hv2 : (x2, v2) ∈ vals) (hw1 : (y1, w1) ∈ vals) (hw2 : (y2, w2) ∈ vals)
    (ha1 : a1 = ⟨f1.toArray⟩) (hb1 : b1 = ⟨m1.toArray⟩) (hf1 : (∀ q ∈ f1, q ∈ ltrs) ∧ (∀ q ∈ m1, q ∈ ltrs) ∧ (∀ f ∈ f1, ∀ x ∈ m1, isK x = isA f) ∧ m1.Nodup ∧ f1.length ≤ m1.length ∧ m1.length ≤ 10)
    (ha2 : a2 = ⟨f2.toArray⟩) (hb2 : b2 = ⟨m2.toArray⟩) (hf2 : (∀ q ∈ f2, q ∈ ltrs) ∧ (∀ q ∈ m2, q ∈ ltrs) ∧ (∀ f ∈ f2, ∀ x ∈ m2, isK x = isA f) ∧ m2.Nodup ∧ f2.length ≤ m2.length ∧ m2.length ≤ 10)
    (e1 : v1 = mostV pr f1 m1 - w1) (e2 : v2 = mostV pr f2 m2 - w2)
    (h : ∀ s', LawAt c fs L oP Pa es ep pr Hd Dd dd Ll g vals ld m s' → R .next s') :
    wpAny c.MD A (exec (.If (.Compare (.List [.Name x1 q1, .Name x2 q2] q3) [.NotEq] [.List [.BinOp (.Call (.Name (Str.ofString "_law_most") q4) [.Name (Str.ofString "price") q5, .Constant (.str a1) k1 q6, .Constant (.str b1) k2 q7] [] q8) .Sub (.Name y1 q9) q10,
      .BinOp (.Call (.Name (Str.ofString "_law_most") q11) [.Name (Str.ofString "price") q12, .Constant (.str a2) k3 q13, .Constant (.str b2) k4 q14] [] q15) .Sub (.Name y2 q16) q17] q18] q19) body [] q20) env) R NoE s := by
  refine wpAny_If ?_
  refine wpAny_isTrue_Compare1 (hm := by with_unfolding_all rfl) ?_
  refine rList ?_
  refine wpAny_items_cons ?_
  refine rVal hsc N H hx1 dx1 hv1 fun t1 => ?_
  refine wpAny_items_cons ?_
  refine rVal hsc N H hx2 dx2 hv2 fun t2 => ?_
  refine wpAny_items_nil ?_
  refine ⟨_, _, H.st, Nat.le_of_ble_eq_true rfl, ?_⟩
  intro D1 s1 I1
  have H1 := H.more I1 fun p hp => .tail _ hp
  refine rList ?_
  refine wpAny_items_cons ?_
  refine wpAny_BinOp ?_
  obtain ⟨c1, c2, c3, c4, c5, c6⟩ := hf1
  refine rLawMost ok hsc N hc hoP H1 hA ha1 hb1 c1 c2 c3 c4 c5 c6 ?_
  intro t3 s3 H3
  refine rVal hsc N H3 hy1 dy1 hw1 fun t4 => ?_
  refine sub_int ?_
  have H4 := H3.less (H3.st.tok (tk := s3.toks + 1))
  refine wpAny_items_cons ?_
  refine wpAny_BinOp ?_
  obtain ⟨c1, c2, c3, c4, c5, c6⟩ := hf2
  refine rLawMost ok hsc N hc hoP H4 hA ha2 hb2 c1 c2 c3 c4 c5 c6 ?_
  intro t5 s5 H5
  refine rVal hsc N H5 hy2 dy2 hw2 fun t6 => ?_
  refine sub_int ?_
  have H6 := H5.less (H5.st.tok (tk := s5.toks + 1))
  refine wpAny_items_nil ?_
  refine ⟨_, _, H6.st, Nat.le_of_ble_eq_true rfl, ?_⟩
  intro D2 s7 I7
  refine ne_intsK (vs := [_, _]) (us := [_, _]) ⟨_, I7.ob _ (.tail _ (.head _)), rfl, _, rfl⟩ (.cons _ _ (.cons _ _ .nil)) ⟨_, I7.ob _ (.head _), rfl, _, rfl⟩ (.cons _ _ (.cons _ _ .nil)) (units_ok hA) ?_
  refine wpAny_truthy_bool ?_
  rw [← e1, ← e2, decide_eq_true rfl, if_neg (by decide)]
  refine wpAny_execs_nil ?_
  exact h s7 (H.less I7.drop.drop)
end

/-! part F31 -/
section
variable {c : Cx} {fs fs' : Fs} {ld ld' : Ld} {s : Shared} {A : Around} {env : Env} {L : Addr} {m : Str → Option Value} {sc : Scope} {cd : Value}
variable {n : Nat} {Q : Value → Shared → Prop}
variable {oP : Obj} {Pa : Addr} {es : Array DictEntry} {ep : Nat} {pr : Nat → Nat → Int} {Hd Dd : Addr} {dd : Obj} {Ll : Addr} {g : List (Str × Str)} {vals : List (Str × Int)} {mu : Nat → Nat} {th : List Nat}

def sumSc : Scope := { kind := .function, names := [(".0", .local), ("left", .local), ("right", .local), ("price", .cell)], isGenerator := false, isCoroutine := false, more := [] }
theorem fh_items : findIn c.K (.ref 285) "items" = some (some (.ref 249)) := by kernel_rfl

set_option maxHeartbeats 1000000 in
theorem rLawSum {q1 q2 q6 q7 q8 q9 q10 q11 q15 q16 : Pos} (ok : c.Ok) (hsc : LawSc sc) (hsum : sc.names.lookup (Str.ofString "sum") = some .globalImplicit) (N : EnvIs env L sc cd) (hc : env.cells = [(Str.ofString "price", L + 1)]) (hoP : oP.data = .cell (some (.ref Pa))) (H : LawAt c fs L oP Pa es ep pr Hd Dd dd Ll g vals ld m s) (hA : AOk (n + 15) A)
    (hg : goodB g = true) (hg50 : g.length ≤ 50) (h : ∀ t s', LawAt c fs L oP Pa es ep pr Hd Dd dd Ll g vals ld m s' → Q (.int (sumOf pr g) t) s') :
    wpAny c.MD A (eval (.Call (.Name (Str.ofString "sum") q1) [.ListComp (.Subscript (.Name (Str.ofString "price") q2) (.BinOp (.Call (.Attribute (.Name (Str.ofString "left") ⟨182, 27, 182, 31⟩) (Str.ofString "lower") ⟨182, 27, 182, 37⟩) [] [] ⟨182, 27, 182, 39⟩) .Add (.Name (Str.ofString "right") q6) q7) q8)
      [⟨.Tuple [.Name (Str.ofString "left") q9, .Name (Str.ofString "right") q10] 0 q11, .Call (.Attribute (.Name (Str.ofString "deals") ⟨182, 68, 182, 73⟩) (Str.ofString "items") ⟨182, 68, 182, 79⟩) [] [] ⟨182, 68, 182, 81⟩, [], 0⟩]
      { kind := .function, names := [(Str.ofString ".0", .local), (Str.ofString "left", .local), (Str.ofString "right", .local), (Str.ofString "price", .free)], isGenerator := false, isCoroutine := false, more := [] } q15] [] q16) env) Q NoE s := by
  refine wpAny_Call_Name_kw ?_
  refine rBuilt H.st N hsc.k hsum (by decide) (mg_sum ok) (mb_sum ok) ?_
  refine rCallM (by intro a; exact nofun) ?_
  refine wpAny_items_cons ?_
  obtain ⟨dit, de, Td, vd, D⟩ := H.dl
  have hlenG : (g.map fun p => pr (n0 (Txt.lower p.1)) (n0 p.2)).length ≤ 50 := by rw [List.length_map]; exact hg50
  have hgo : ∀ (i : Nat) (v : Value), dit[i]? = some v → ∃ T, v = .ref T := by
    intro i v hv
    obtain ⟨hi, rfl⟩ := Array.getElem?_eq_some_iff.mp hv
    have := D.hs.item i hi
    rw [hv] at this
    exact ⟨_, Option.some.inj this⟩
  refine rCompL dit (Gains (g.map fun p => pr (n0 (Txt.lower p.1)) (n0 p.2))) (cl := [(Str.ofString "price", L + 1)]) (sc' := sumSc) hA.hh N ?_ ?_ (by decide) rfl (by decide) (fun _ => rfl) (fun _ _ h => h.2) ⟨.nil, by simp⟩ (.inr ⟨⟨_, _, _, rfl⟩, hgo⟩) ?_
  · unfold closureFor cellOf
    rw [hc]; rfl
  · unfold relabel Env.kindOf
    rw [N.sc, hsc.k]
    simp only [List.map_cons, List.map_nil, hsc.price]
    rfl
  refine MethodCall_ ?_
  refine rLoc H.st N hsc.k hsc.deals (by decide) H.deals ?_
  refine method_f2 H.st.kx (D.inst H.st) fh_ga PySem.F.canon_object_ga fh_gt fh_items (by kernel_rfl) (D.dd.sh rfl) ?_
  refine callWith_K0 H.st.kx (by kernel_rfl) ?_
  refine items_ct (n := n) ok H.st (hA.mono (by omega)) D ?_
  intro Nl e1 s1 I1
  refine ⟨Nl, e1, _, _, rfl, .head _, I1, ?_, ?_⟩
  · intro C acc Ia cenv N' hc' i v m' ys oI e5 s5 hv hG S
    obtain ⟨hi, e1⟩ := Array.getElem?_eq_some_iff.mp hv
    have e2 := D.hs.item i hi
    rw [hv] at e2
    cases Option.some.inj e2
    obtain ⟨p, hp⟩ : ∃ p, g[i]? = some p := ⟨_, List.getElem?_eq_getElem (D.hs.size ▸ hi : i < g.length)⟩
    obtain ⟨t1, u1, ev⟩ := D.hs.val i p hp
    have hob := D.hs.obj i hi
    rw [ev] at hob
    have okp := D.ok p (List.mem_of_getElem? hp)
    have hgp := List.all_eq_true.mp hg p (List.mem_of_getElem? hp)
    simp only [Bool.and_eq_true, Bool.or_eq_true, beq_iff_eq] at hgp
    obtain ⟨⟨hg1, hg2⟩, hg3⟩ := hgp
    refine rAssign2 hA.hh S N' rfl rfl rfl (.tail _ (.tail _ (.tail _ hob))) ?_
    intro s6 I6
    refine rTests0 ?_
    rw [if_pos rfl]
    refine Subscript_ ?_
    refine rCell I6 N' hc' (.tail _ (.tail _ (.tail _ H.cell))) hoP ?_
    refine wpAny_BinOp ?_
    refine MethodCall_ ?_
    repeat (walk_at "st")
    refine GM.lower ?_
    refine callWith_method0 ?_
    refine SCL.lower (by rw [okS_len okp.1]; decide) ?_
    intro _
    replace I6 := I6.tok (tk := s6.toks + 1)
    repeat (walk_at "st")
    refine PyProof.Rows.add_str ?_ (by rw [okS_len (lower_ok okp.1), okS_len okp.2]; decide)
    intro t8 k8
    have hkey : Txt.lower p.1 ++ p.2 = L2 (n0 (Txt.lower p.1)) (n0 p.2) := by
      show (⟨(Txt.lower p.1).cps ++ p.2.cps⟩ : Str) = _
      have a1 : (Txt.lower p.1).cps = #[n0 (Txt.lower p.1)] := congrArg (·.cps) hg1
      have a2 : p.2.cps = #[n0 p.2] := congrArg (·.cps) hg2
      rw [a1, a2]; rfl
    rw [hkey]
    refine rPrice (I6.tok (tk := k8)) (H.price.mono fun q hq => .tail _ (.tail _ (.tail _ hq))) (by rcases hg3 with h | h; exact .inl h; exact .inr h) ?_
    intro t9 s9 I9
    refine ⟨_, I9, hG.push (by omega) ?_⟩
    rw [List.getElem?_map, hp]; rfl
  · intro acc ys e5 s5 hG I5
    refine wpAny_items_nil ?_
    have hG1 := hG.1
    rw [D.hs.size, ← List.length_map (f := fun p => pr (n0 (Txt.lower p.1)) (n0 p.2)), List.take_length] at hG1
    refine rSum hA.hh I5 (.head _) hG1 ?_
    intro t s6 I6
    exact h t s6 (H.less I6.drop.drop)

set_option maxHeartbeats 1000000 in
theorem aSumCheck {x1 y1 y2 : Str} {v1 w1 w2 : Int} {r1 r2 r3 r4 r5 r6 r7 r8 r9 r10 r11 : Pos} {esum : PySem.Expr} {k2 : Nat} {body : List Stmt} {R : Flow → Shared → Prop} (hsc : LawSc sc) (N : EnvIs env L sc cd) (H : LawAt c fs L oP Pa es ep pr Hd Dd dd Ll g vals ld m s) (hA : AOk (n + 15) A)
    (hx1 : sc.names.lookup x1 = some .local) (hy1 : sc.names.lookup y1 = some .local) (hy2 : sc.names.lookup y2 = some .local)
    (dx1 : (x1 == ("__debug__" : Str)) = false) (dy1 : (y1 == ("__debug__" : Str)) = false) (dy2 : (y2 == ("__debug__" : Str)) = false)
    (hv1 : (x1, v1) ∈ vals) (hw1 : (y1, w1) ∈ vals) (hw2 : (y2, w2) ∈ vals) (e1 : v1 = w1 - w2) (e2 : sumOf pr g = 2 * w1)
    (hE : ∀ (Q : Value → Shared → Prop), (∀ t s', LawAt c fs L oP Pa es ep pr Hd Dd dd Ll g vals ld m s' → Q (.int (sumOf pr g) t) s') → wpAny c.MD A (eval esum env) Q NoE s)
    (hst : starEach [esum] env = [(false, eval esum env)]) (h : ∀ s', LawAt c fs L oP Pa es ep pr Hd Dd dd Ll g vals ld m s' → R .next s') :
    wpAny c.MD A (exec (.If (.Compare (.List [.Name x1 r1, esum] r2) [.NotEq] [.List [.BinOp (.Name y1 r3) .Sub (.Name y2 r4) r5, .BinOp (.Constant (.int 2) k2 r6) .Mult (.Name y1 r7) r8] r9] r10) body [] r11) env) R NoE s := by
  refine wpAny_If ?_
  refine wpAny_isTrue_Compare1 (hm := by with_unfolding_all rfl) ?_
  refine rList ?_
  refine wpAny_items_cons ?_
  refine rVal hsc N H hx1 dx1 hv1 fun t1 => ?_
  refine wpAny_items_cons ?_ (by rw [hst]; rfl)
  refine hE _ fun t2 s2 H2 => ?_
  refine wpAny_items_nil ?_
  refine ⟨_, _, H2.st, Nat.le_of_ble_eq_true rfl, ?_⟩
  intro D1 s3 I3
  have H3 := H.more I3 fun p hp => .tail _ hp
  refine rList ?_
  refine wpAny_items_cons ?_
  refine wpAny_BinOp ?_
  refine rVal hsc N H3 hy1 dy1 hw1 fun t4 => ?_
  refine rVal hsc N H3 hy2 dy2 hw2 fun t5 => ?_
  refine sub_int ?_
  have H4 := H3.less (H3.st.tok (tk := s3.toks + 1))
  refine wpAny_items_cons ?_
  refine wpAny_BinOp ?_
  refine rInt H4.st fun t6 s6 I6 => ?_
  have H6 := H4.less I6
  refine rVal hsc N H6 hy1 dy1 hw1 fun t7 => ?_
  refine mul_int ?_
  have H7 := H6.less (H6.st.tok (tk := s6.toks + 1))
  refine wpAny_items_nil ?_
  refine ⟨_, _, H7.st, Nat.le_of_ble_eq_true rfl, ?_⟩
  intro D2 s8 I8
  refine ne_intsK (vs := [_, _]) (us := [_, _]) ⟨_, I8.ob _ (.tail _ (.head _)), rfl, _, rfl⟩ (.cons _ _ (.cons _ _ .nil)) ⟨_, I8.ob _ (.head _), rfl, _, rfl⟩ (.cons _ _ (.cons _ _ .nil)) (units_ok hA) ?_
  refine wpAny_truthy_bool ?_
  rw [e2, ← e1, decide_eq_true rfl, if_neg (by decide)]
  refine wpAny_execs_nil ?_
  exact h s8 (H.less I8.drop.drop)
theorem rPC {a : Str} {x q k : Nat} {p1 p2 p3 : Pos} (hsc : LawSc sc) (N : EnvIs env L sc cd) (hc : env.cells = [(Str.ofString "price", L + 1)]) (hoP : oP.data = .cell (some (.ref Pa))) (I : St c fs ld s) (hcell : (L + 1, oP) ∈ ld) (hP : Price c ld Pa es ep pr)
    (ha : a = L2 x q) (hxq : (isA x = true ∧ isK q = true) ∨ (isK x = true ∧ isA q = true)) (h : ∀ t s', St c fs ld s' → Q (.int (pr x q) t) s') : wpAny c.MD A (eval (.Subscript (.Name (Str.ofString "price") p1) (.Constant (.str a) k p2) p3) env) Q NoE s := by
  subst ha
  refine Subscript_ ?_
  refine rCell I N hc hcell hoP ?_ hsc.k hsc.price
  refine rStr I fun t s1 I1 => ?_
  exact rPrice I1 hP hxq h
end

/-! part F32 -/
section
variable {c : Cx} {fs fs' : Fs} {ld ld' : Ld} {s : Shared} {A : Around} {env : Env} {L : Addr} {m : Str → Option Value} {sc : Scope} {cd : Value}
variable {n : Nat} {Q : Value → Shared → Prop}

set_option maxHeartbeats 400000 in
theorem law_ct (ok : c.Ok) {Sa : Addr} {oS : Obj} {vs : Array Value} {eS k : Nat} (I : St c fs ld s) (hA : AOk (n + 20) A) (hS : c.hb.get? Sa = some oS) (hSc : oS.cls = .type "list") (hSd : oS.data = .seq vs eS) (hSi : AllI k vs) (hk : k ≤ 100) :
    wpAny c.MD A (call (.ref 323) [.ref Sa] []) (fun v s' => v = .bool true ∧ ∃ fs' ld', St c fs' ld' s') NoE s := by
  refine callC (args := ⟨_, _⟩) I hA (kg ok rfl rfl) ⟨_, _, _, _, rfl, kg ok rfl rfl, rfl, rfl⟩ rfl (BindsTo.of_eq rfl) rfl (kinds fun _ => rfl) ?_ rfl rfl rfl rfl rfl ?_
  · intro L p hp
    have hp' : p ∈ [(("price" : Str), L + 1)] := hp
    simp only [List.mem_cons, List.not_mem_nil, or_false] at hp'
    rcases hp' with rfl; rfl
  intro L s' env ldc htk N hcells hldc hcell I' hA'
  replace hcells : env.cells = [(Str.ofString "price", L + 1)] := hcells
  have hsc : LawSc env.scope := by rw [N.sc]; exact ⟨rfl, rfl, rfl, rfl, rfl, rfl⟩
  rw [N.sc] at hsc
  obtain ⟨oN, mN, dN⟩ := hcell "price" (L + 1) rfl
  replace dN : oN.data = .cell none := dN
  replace hldc : ldc.map (·.1) = [L + 1] := hldc
  obtain ⟨p0, rfl, hp0⟩ := List.map_eq_singleton_iff.mp hldc
  obtain rfl := List.mem_singleton.mp mN
  clear hcell hldc hp0 htk mN
  replace ⟨m0, hm0, I'⟩ : ∃ m0 : Str → Option Value, m0 "script" = some (.ref Sa) ∧ St c ((L, m0) :: fs) ((L + 1, oN) :: ld) s' := ⟨_, rfl, I'⟩
  with_reducible refine rSeq (fun s => ∃ oP Pa es ep pr, oP.data = .cell (some (.ref Pa)) ∧ St c ((L, m0) :: fs) ((L + 1, oP) :: (Pa, dictO es ep) :: ld) s ∧ Price c ((L + 1, oP) :: (Pa, dictO es ep) :: ld) Pa es ep pr ∧ (∀ x q, pr x q = pr q x) ∧ (∀ x q, 0 ≤ pr x q ∧ pr x q ≤ 5)) ?_ ?_
  · repeat (walk_at "st")
    refine rCallRef (kg ok rfl rfl) ?_
    repeat (walk_at "st")
    refine ⟨⟨_, _, I'⟩, ?_⟩
    refine prices_ct (n := n) ok I' (hA'.mono (by omega)) hS hSc hSd hSi hk ?_
    intro Pa es ep pr s1 I1 hP hs hn
    refine rStoreC (I1.perm (List.Perm.swap _ _ _)) N hcells dN ?_
    intro s2 oP dP I2
    exact ⟨rfl, oP, Pa, es, ep, pr, dP, I2, ⟨.tail _ (.head _), hP.keys, hP.get⟩, hs, hn⟩
  clear I' dN
  rintro s2 ⟨oP, Pa, es, ep, pr, dP, I2, hP, hs, hn⟩
  with_reducible refine rSeq (fun s => ∃ m t, St c ((L, m) :: fs) ((L + 1, oP) :: (Pa, dictO es ep) :: ld) s ∧ m "lost" = some (.ref 61) ∧ m "empty" = some (.str (Str.ofString "") t)) ?_ ?_
  · refine rAssignT ?_
    repeat (walk_at "st")
    refine rCallKw (kg ok rfl rfl) ?_
    repeat (walk_at "st")
    refine ⟨⟨_, _, by assumption⟩, ?_⟩
    refine info_none (n := n) ok (by assumption) (hA'.mono (by omega)) ?_
    intro T t3 s3 I3
    refine rAssign2 hA'.hh I3 N rfl rfl rfl (.head _) ?_
    intro s4 I4
    exact ⟨rfl, _, t3, I4.drop, by walk_at "lk", by walk_at "lk"⟩
  clear I2
  rintro s4 ⟨m4, t4, I4, hl1, hl2⟩
  with_reducible refine rSeq (fun s => St c ((L, m4) :: fs) ((L + 1, oP) :: (Pa, dictO es ep) :: ld) s) ?_ ?_
  · repeat (walk_at "st")
    refine wpAny_isNot_ref_self ?_
    refine wpAny_truthy_bool ?_
    rw [if_neg (by decide)]
    repeat (walk_at "st")
    refine ne_str ?_
    rw [empty_ne]
    refine wpAny_truthy_bool ?_
    rw [if_neg (by decide)]
    repeat (walk_at "st")
    rw [if_neg (by decide)]
    repeat (walk_at "st")
    exact ⟨rfl, by assumption⟩
  clear I4 hl1 hl2
  intro s5 I5
  with_reducible refine rSeq (fun s => ∃ (m : Str → Option Value) (Sl : Addr) (it : Array Value) (Ts : Nat → Addr) (vals : Nat → Array Value) (new : Ld), St c ((L, m) :: fs) ((Sl, listO it 0) :: (new ++ (L + 1, oP) :: (Pa, dictO es ep) :: ld)) s ∧ Holds ((Sl, listO it 0) :: (new ++ (L + 1, oP) :: (Pa, dictO es ep) :: ld)) it gS Ts vals ∧ m "straight" = some (.ref Sl)) ?_ ?_
  · (with_reducible refine wpAny_Assign_Name (hs := ?hs) ?_); (case hs => rfl)
    with_reducible refine rPairs4 I5 ?_
    rw [aS]
    intro Sl it Ts vals new s6 I6 H6
    refine rStore I6 N rfl rfl ?_
    intro s7 I7
    exact ⟨rfl, _, Sl, it, Ts, vals, new, I7, H6, by walk_at "lk"⟩
  clear I5
  rintro s7 ⟨m7, Sl, itS, TsS, vS, newS, I7, HS, hm7⟩
  with_reducible refine rSeq (fun s => ∃ (m : Str → Option Value) (Cl : Addr) (it : Array Value) (Ts : Nat → Addr) (vals : Nat → Array Value) (new : Ld), St c ((L, m) :: fs) ((Cl, listO it 0) :: (new ++ (Sl, listO itS 0) :: (newS ++ (L + 1, oP) :: (Pa, dictO es ep) :: ld))) s ∧ Holds ((Cl, listO it 0) :: (new ++ (Sl, listO itS 0) :: (newS ++ (L + 1, oP) :: (Pa, dictO es ep) :: ld))) it gC Ts vals ∧
      m "straight" = some (.ref Sl) ∧ m "crossed" = some (.ref Cl)) ?_ ?_
  · (with_reducible refine wpAny_Assign_Name (hs := ?hs) ?_); (case hs => rfl)
    with_reducible refine rPairs4 I7 ?_
    rw [aC]
    intro Cl it Ts vals new s8 I8 H8
    refine rStore I8 N rfl rfl ?_
    intro s9 I9
    exact ⟨rfl, _, Cl, it, Ts, vals, new, I9, H8, by walk_at "lk", by walk_at "lk"⟩
  clear I7 hm7
  rintro s9 ⟨m9, Cl, itC, TsC, vC, newC, I9, HC, hm9, hm9'⟩
  have hmem : ∀ p ∈ (L + 1, oP) :: (Pa, dictO es ep) :: ld, p ∈ (Cl, listO itC 0) :: (newC ++ (Sl, listO itS 0) :: (newS ++ (L + 1, oP) :: (Pa, dictO es ep) :: ld)) := fun p hp =>
    .tail _ (List.mem_append.mpr (.inr (.tail _ (List.mem_append.mpr (.inr hp)))))
  have hmemS : ∀ p ∈ (Sl, listO itS 0) :: (newS ++ (L + 1, oP) :: (Pa, dictO es ep) :: ld), p ∈ (Cl, listO itC 0) :: (newC ++ (Sl, listO itS 0) :: (newS ++ (L + 1, oP) :: (Pa, dictO es ep) :: ld)) := fun p hp => .tail _ (List.mem_append.mpr (.inr hp))
  replace HS := HS.mono hmemS
  replace hP := hP.mono hmem
  have hcell := hmem _ (.head _)
  have hSl := hmemS _ (.head _)
  have hCl : (Cl, listO itC 0) ∈ (Cl, listO itC 0) :: (newC ++ (Sl, listO itS 0) :: (newS ++ (L + 1, oP) :: (Pa, dictO es ep) :: ld)) := .head _
  clear hmem hmemS
  generalize (Cl, listO itC 0) :: (newC ++ (Sl, listO itS 0) :: (newS ++ (L + 1, oP) :: (Pa, dictO es ep) :: ld)) = ldB at *
  with_reducible refine rSeq (fun s => ∃ (g : List (Str × Str)) (mu : Nat → Nat) (Hd Dd : Addr) (dd : Obj) (Ll : Addr) (ld : Ld) (m : Str → Option Value), Plain pr g mu ∧ LawAt c fs L oP Pa es ep pr Hd Dd dd Ll g [] ld m s) ?_ ?_
  · (with_reducible refine wpAny_Assign_Name (hs := ?hs) ?_); (case hs => rfl)
    refine wpAny_Call_Name_kw ?_
    repeat (walk_at "st")
    refine callWith_K (K := c.K) (h₀ := s9.heap) I9.kx (by kernel_rfl) ?_
    with_reducible refine wpAny_items_cons (he := ?he) ?_
    case he => rfl
    refine wpAny_mono (Q := fun v s => ∃ (Xl : Addr) (itX : Array Value) (eX : Nat) (gX : List (Str × Str)) (muX : Nat → Nat) (TsX : Nat → Addr) (vX : Nat → Array Value), v = .ref Xl ∧ St c ((L, m9) :: fs) ldB s ∧ (Xl, listO itX eX) ∈ ldB ∧ Holds ldB itX gX TsX vX ∧ Plain pr gX muX ∧ (∀ p ∈ gX, OkS p.1 ∧ OkS p.2)) (E := NoE) ?_ (fun v s10 h10 => ?_) (fun _ _ z => z.elim)
    · refine wpAny_IfExp ?_
      walk_at "st"
      walk_at "st"
      with_reducible refine rPC hsc N hcells dP I9 hcell hP w_ak (by decide) ?_
      intro t10 s10 I10
      with_reducible refine rPC hsc N hcells dP I10 hcell hP w_bl (by decide) ?_
      intro t11 s11 I11
      refine add_int ?_
      replace I11 := I11.tok (tk := s11.toks + 1)
      walk_at "st"
      with_reducible refine rPC hsc N hcells dP I11 hcell hP w_al (by decide) ?_
      intro t12 s12 I12
      with_reducible refine rPC hsc N hcells dP I12 hcell hP w_bk (by decide) ?_
      intro t13 s13 I13
      refine add_int ?_
      replace I13 := I13.tok (tk := s13.toks + 1)
      refine ge_int ?_
      refine wpAny_truthy_bool ?_
      clear I9 I10 I11 I12
      by_cases hcond : pr 97 108 + pr 98 107 ≤ pr 97 107 + pr 98 108
      · rw [decide_eq_true hcond, if_pos rfl]
        repeat (walk_at "st")
        exact ⟨Sl, itS, 0, gS, muT tS, TsS, vS, rfl, I13, hSl, HS, plainS hs hn hcond, okgS⟩
      · rw [decide_eq_false hcond, if_neg (by decide)]
        repeat (walk_at "st")
        exact ⟨Cl, itC, 0, gC, muT tC, TsC, vC, rfl, I13, hCl, HC, plainC hs hn hcond, okgC⟩
    · obtain ⟨Xl, itX, eX, gX, muX, TsX, vX, rfl, I10, hX, HX, hPl, hok⟩ := h10
      refine wpAny_items_nil ?_
      refine ⟨I10.kx, ?_⟩
      refine headers_ct (n := n) ok I10 (hA'.mono (by omega)) hX HX hok (Nat.le_trans hPl.pLen (by decide)) ?_
      intro Hd Dd dd s11 hdd I11
      refine rStore I11 N rfl rfl ?_
      intro s12 I12
      have hm12 : ∀ p ∈ ldB, p ∈ (Hd, dealsO Dd) :: (Dd, dd) :: ldB := fun p hp => .tail _ (.tail _ hp)
      exact ⟨rfl, gX, muX, Hd, Dd, dd, Xl, _, _, hPl, I12, by walk_at "lk", (fun _ h => nomatch h), hm12 _ hcell, hP.mono hm12, itX, eX, TsX, vX, ⟨.head _, .tail _ (.head _), hdd, hm12 _ hX, HX.mono hm12, hok, Nat.le_trans hPl.pLen (by decide)⟩⟩
  rintro s20 ⟨g, mu, Hd, Dd, dd, Ll, ld1, m1, hPl, H0⟩
  have hA15 : AOk (n + 15) (A.deeper env) := hA'.mono (by omega)
  clear I9 HC HS hP hcell hSl hCl hm9 hm9'
  with_reducible refine wpAny_execs_cons ?_
  with_reducible refine aAdds (n := n) ok hsc N hcells dP H0 hA15 hPl.pMu w_abkl w_d ?x1 ?x2 ?x3 ?x4 ?x5 ?x6 ?_
  case x1 => decide
  case x2 => decide
  case x3 => decide
  case x4 => rfl
  case x5 => decide
  case x6 => rfl
  intro M1 m2 s21 hM1 H1
  dsimp only
  with_reducible refine wpAny_execs_cons ?_
  with_reducible refine aAdds (n := n) ok hsc N hcells dP H1 hA15 hPl.pMu w_abkl w_m ?x1 ?x2 ?x3 ?x4 ?x5 ?x6 ?_
  case x1 => decide
  case x2 => decide
  case x3 => decide
  case x4 => rfl
  case x5 => decide
  case x6 => rfl
  intro M2 m3 s22 hM2 H2
  dsimp only
  with_reducible refine wpAny_execs_cons ?_
  with_reducible refine aSettled (n := n) ok hsc N hcells dP H2 hA15 hPl.pMu w_abkl w_c ?x1 ?x2 ?x3 hPl.pLen ?ends ?x4 ?x5 ?x6 ?_
  case ends => exact hPl.pEnds
  case x1 => decide
  case x2 => decide
  case x3 => decide
  case x4 => rfl
  case x5 => decide
  case x6 => rfl
  intro M3 ch r ld2 m4 s23 hM3 hB H3
  dsimp only
  obtain ⟨hc1, hgood, hlen, hsum, mu', hmu', hd', hm'⟩ := hPl.pC M3 ch r hM3 hB
  have f1 := hPl.pD M1 hM1
  have f2 := hPl.pM M2 hM2
  generalize settleS g mu ch = g2 at *
  with_reducible refine wpAny_execs_cons ?_
  with_reducible refine aAdds (n := n) ok hsc N hcells dP H3 hA15 hmu' w_abckl w_d ?x1 ?x2 ?x3 ?x4 ?x5 ?x6 ?_
  case x1 => decide
  case x2 => decide
  case x3 => decide
  case x4 => rfl
  case x5 => decide
  case x6 => rfl
  intro M4 m5 s24 hM4 H4
  dsimp only
  with_reducible refine wpAny_execs_cons ?_
  with_reducible refine aAdds (n := n) ok hsc N hcells dP H4 hA15 hmu' w_abckl w_m ?x1 ?x2 ?x3 ?x4 ?x5 ?x6 ?_
  case x1 => decide
  case x2 => decide
  case x3 => decide
  case x4 => rfl
  case x5 => decide
  case x6 => rfl
  intro M5 m6 s25 hM5 H5
  dsimp only
  have f4 := hd' M4 hM4
  have f5 := hm' M5 hM5
  with_reducible refine wpAny_execs_cons ?_
  with_reducible refine aMost (n := n) ok hsc N hcells dP H5 hA15 w_kl w_ab ?x1 ?x2 ?x3 ?x4 ?x5 ?x6 ?x7 ?x8 ?x9 ?_
  case x1 => decide
  case x2 => decide
  case x3 => decide
  case x4 => decide
  case x5 => decide
  case x6 => decide
  case x7 => rfl
  case x8 => decide
  case x9 => rfl
  intro m7 s26 H6
  dsimp only
  with_reducible refine wpAny_execs_cons ?_
  with_reducible refine aMost (n := n) ok hsc N hcells dP H6 hA15 w_kl w_abc ?x1 ?x2 ?x3 ?x4 ?x5 ?x6 ?x7 ?x8 ?x9 ?_
  case x1 => decide
  case x2 => decide
  case x3 => decide
  case x4 => decide
  case x5 => decide
  case x6 => decide
  case x7 => rfl
  case x8 => decide
  case x9 => rfl
  intro m8 s27 H7
  dsimp only
  with_reducible refine wpAny_execs_cons ?_
  with_reducible refine aCheck (n := n) (v1 := M1) (v2 := M2) (w1 := base pr) (w2 := base pr) ok hsc N hcells dP H7 hA15 ?x1 ?x2 ?x3 ?x4 ?y1 ?y2 ?y3 ?y4 ?v1 ?v2 ?v3 ?v4 w_kl w_abd ?f1 w_ab w_klm ?f2 ?e1 ?e2 ?_
  case x1 => rfl
  case x2 => rfl
  case x3 => rfl
  case x4 => rfl
  case y1 => decide
  case y2 => decide
  case y3 => decide
  case y4 => decide
  case f1 => exact ⟨by decide, by decide, by decide, by decide, by decide, by decide⟩
  case f2 => exact ⟨by decide, by decide, by decide, by decide, by decide, by decide⟩
  case e1 => exact f1
  case e2 => exact f2
  case v1 => repeat (first | (with_reducible exact List.mem_cons_self) | (with_reducible refine List.mem_cons_of_mem _ ?_))
  case v2 => repeat (first | (with_reducible exact List.mem_cons_self) | (with_reducible refine List.mem_cons_of_mem _ ?_))
  case v3 => repeat (first | (with_reducible exact List.mem_cons_self) | (with_reducible refine List.mem_cons_of_mem _ ?_))
  case v4 => repeat (first | (with_reducible exact List.mem_cons_self) | (with_reducible refine List.mem_cons_of_mem _ ?_))
  intro s28 H8
  dsimp only
  with_reducible refine wpAny_execs_cons ?_
  with_reducible refine aSumCheck (n := n) (v1 := M3) (w1 := more pr) (w2 := base pr) hsc N H8 hA15 ?x1 ?x2 ?x3 ?y1 ?y2 ?y3 ?v1 ?v2 ?v3 hc1 hsum ?hE ?hst ?_
  case x1 => rfl
  case x2 => rfl
  case x3 => rfl
  case y1 => decide
  case y2 => decide
  case y3 => decide
  case v1 => repeat (first | (with_reducible exact List.mem_cons_self) | (with_reducible refine List.mem_cons_of_mem _ ?_))
  case v2 => repeat (first | (with_reducible exact List.mem_cons_self) | (with_reducible refine List.mem_cons_of_mem _ ?_))
  case v3 => repeat (first | (with_reducible exact List.mem_cons_self) | (with_reducible refine List.mem_cons_of_mem _ ?_))
  case hE =>
    intro Q' hQ'
    exact rLawSum (n := n) ok hsc rfl N hcells dP H8 hA15 hgood hlen hQ'
  case hst => rfl
  intro s29 H9
  dsimp only
  with_reducible refine wpAny_execs_cons ?_
  with_reducible refine aCheck (n := n) (v1 := M4) (v2 := M5) (w1 := more pr) (w2 := more pr) ok hsc N hcells dP H9 hA15 ?x1 ?x2 ?x3 ?x4 ?y1 ?y2 ?y3 ?y4 ?v1 ?v2 ?v3 ?v4 w_kl w_abcd ?f1 w_klm w_abc ?f2 ?e1 ?e2 ?_
  case x1 => rfl
  case x2 => rfl
  case x3 => rfl
  case x4 => rfl
  case y1 => decide
  case y2 => decide
  case y3 => decide
  case y4 => decide
  case f1 => exact ⟨by decide, by decide, by decide, by decide, by decide, by decide⟩
  case f2 => exact ⟨by decide, by decide, by decide, by decide, by decide, by decide⟩
  case e1 => exact f4
  case e2 => exact f5
  case v1 => repeat (first | (with_reducible exact List.mem_cons_self) | (with_reducible refine List.mem_cons_of_mem _ ?_))
  case v2 => repeat (first | (with_reducible exact List.mem_cons_self) | (with_reducible refine List.mem_cons_of_mem _ ?_))
  case v3 => repeat (first | (with_reducible exact List.mem_cons_self) | (with_reducible refine List.mem_cons_of_mem _ ?_))
  case v4 => repeat (first | (with_reducible exact List.mem_cons_self) | (with_reducible refine List.mem_cons_of_mem _ ?_))
  intro s30 H10
  dsimp only

  with_reducible refine wpAny_execs_cons ?_
  with_reducible refine wpAny_Return_some ?_
  refine BoolOp_and ?_
  walk_at "st"
  with_reducible refine rVal (v := M4) hsc N H10 ?x1 ?x2 ?x3 fun t31 => ?_
  case x1 => rfl
  case x2 => decide
  case x3 => repeat (first | (with_reducible exact List.mem_cons_self) | (with_reducible refine List.mem_cons_of_mem _ ?_))
  with_reducible refine rVal (v := M1) hsc N H10 ?x1 ?x2 ?x3 fun t32 => ?_
  case x1 => rfl
  case x2 => decide
  case x3 => repeat (first | (with_reducible exact List.mem_cons_self) | (with_reducible refine List.mem_cons_of_mem _ ?_))
  refine le_int ?_
  refine wpAny_truthy_bool ?_
  have g1 : M4 ≤ M1 := by rw [f4, f1]; exact shap_d hs
  have g2' : M2 ≤ M5 := by rw [f5, f2]; exact shap_m hs hn
  rw [decide_eq_true g1, if_pos rfl]
  refine BoolOp_one ?_
  walk_at "st"
  with_reducible refine rVal (v := M5) hsc N H10 ?x1 ?x2 ?x3 fun t33 => ?_
  case x1 => rfl
  case x2 => decide
  case x3 => repeat (first | (with_reducible exact List.mem_cons_self) | (with_reducible refine List.mem_cons_of_mem _ ?_))
  with_reducible refine rVal (v := M2) hsc N H10 ?x1 ?x2 ?x3 fun t34 => ?_
  case x1 => rfl
  case x2 => decide
  case x3 => repeat (first | (with_reducible exact List.mem_cons_self) | (with_reducible refine List.mem_cons_of_mem _ ?_))
  refine ge_int ?_
  rw [decide_eq_true g2']
  exact ⟨rfl, _, _, H10.st⟩
end

/-! part F33 -/
section
theorem ns_eq {K : Frag} {h : Heap} {N : Addr} {mg : Str → Option Value} {n : Str} {r : Option Value} (X : K.In h) (G : h.Ns N mg) (e : nsIn K N n = some r) : mg n = r := by
  obtain ⟨o, es, ep, ho, hd, _, hf⟩ := G
  unfold nsIn at e
  split at e
  · rename_i c d es' n' sl q
    have := X _ _ q
    rw [ho] at this
    cases this
    cases hd
    rw [← hf]
    unfold nsFind findBy
    rw [← Array.find?_toList]
    split at e
    · rename_i x he
      rw [he]
      exact Option.some.inj e
    · rename_i he
      rw [he]
      split at e
      · cases e
      · exact Option.some.inj e
  · cases e

theorem lookup_filter {α : Type} {l : List (Nat × α)} {a b : Nat} {o : α} (h : (l.filter fun x => !(Nat.beq x.1 b)).lookup a = some o) : l.lookup a = some o ∧ a ≠ b := by
  induction l with
  | nil => cases h
  | cons x l ih =>
    obtain ⟨k, v⟩ := x
    rw [List.filter_cons] at h
    split at h
    · rename_i hk
      rw [List.lookup_cons] at h ⊢
      cases q : a == k with
      | true =>
        rw [q] at h
        have e := beq_iff_eq.mp q
        subst e
        refine ⟨h, fun hab => ?_⟩
        subst hab
        simp at hk
      | false =>
        rw [q] at h
        exact ih h
    · rename_i hk
      obtain ⟨h1, h2⟩ := ih h
      refine ⟨?_, h2⟩
      rw [List.lookup_cons]
      have : (a == k) = false := by
        cases q : a == k with
        | false => rfl
        | true =>
          exfalso
          have e := beq_iff_eq.mp q
          have hk2 : Nat.beq k b = true := by simpa using hk
          exact h2 (e.trans (Nat.eq_of_beq_eq_true hk2))
      rw [this]
      exact h1

theorem get_freed {h : Heap} {a : Addr} : (h.update a fun o => { o with data := .freed }).get? a = none := by
  obtain ⟨objs, l⟩ := h
  show Heap.get? ⟨objs.modify a _, l⟩ a = none
  unfold Heap.get?
  dsimp only
  rw [Array.getElem?_modify, if_pos rfl]
  cases objs[a]? with
  | none => rfl
  | some o => rfl

theorem tabPT (w : World) : (frag.heap_1 w.params).lookup PT = some (tableObj #[]) := by kernel_rfl

theorem law_final {w : World} {s₁ : Shared} {mg mb : Str → Option Value} (KX : (frag.heap_1 w.params).In s₁.heap) (hG : s₁.heap.Ns mainGlobals mg) (hB : s₁.heap.Ns builtinsNs mb) (hlim : s₁.heap.NoLimit) (hbi : ∀ x : Str, x ≠ "__name__" → mb x = bootBuiltins x) (hg : s₁.gens = #[])
    {Sa : Addr} {vs : List Value} {ns : List Int} (hL : s₁.heap.IsList Sa vs.toArray) (hI : IntsAre vs ns) (hn : ns.length ≤ 63) :
    wpAny (model PySem.Challenge.rw_wk0037_01.row.prog w) callerA (call (.ref 323) [.ref Sa]) (fun v s' => v = .bool true ∧ OldK s₁.heap s'.heap ∧ s'.os = s₁.os ∧ AllBare s'.gens) (fun _ _ => False) s₁ := by
  have hPT := KX _ _ (tabPT w)
  have hoth : ∀ b, b ≠ PT → (s₁.heap.update PT fun o => { o with data := .freed }).get? b = s₁.heap.get? b := fun b hb => Heap.get?_update_other _ _ (Ne.symm hb)
  have hback : ∀ b o, (s₁.heap.update PT fun o => { o with data := .freed }).get? b = some o → s₁.heap.get? b = some o ∧ b ≠ PT := fun b o e => by
    have hb : b ≠ PT := fun h => by rw [h, get_freed] at e; cases e
    exact ⟨(hoth b hb).symm.trans e, hb⟩
  obtain ⟨oS, hoS, hcS, eS, hdS⟩ := hL
  have hSa : Sa ≠ PT := fun h => by
    rw [h, hPT] at hoS
    cases hoS
    cases hcS
  have nsk : ∀ {N : Addr} {m : Str → Option Value}, N ≠ PT → s₁.heap.Ns N m → (s₁.heap.update PT fun o => { o with data := .freed }).Ns N m := fun hN G => G.at' fun o e => (hoth _ hN).trans e
  let c : Cx := ⟨w, s₁.heap.update PT fun o => { o with data := .freed }, s₁.os, mg, mb⟩
  have ok : c.Ok := {
    kin := fun a o h => by
      obtain ⟨h1, h2⟩ := lookup_filter h
      exact (hoth a h2).trans (KX a o h1)
    pt := get_freed
    lim := let ⟨mc, h1, h2⟩ := hlim; ⟨mc, nsk (by decide) h1, h2⟩
    g := nsk (by decide) hG
    b := nsk (by decide) hB
    mgv := fun x v e => ns_eq KX hG e
    mbv := fun x hx => hbi x (beq_eq_false_iff_ne.mp hx) }
  have I : St c [] [] s₁ := {
    fr := fun p hp => nomatch hp
    ob := fun p hp => nomatch hp
    nd := List.nodup_nil
    nb := fun a ha => nomatch ha
    base := fun b o e => (hback b o e).1
    tb := ⟨#[], hPT, .inl rfl⟩
    gens := .of_eq hg
    os := rfl
    ok := ok }
  have hA : AOk (0 + 20) callerA := ⟨rfl, by show 1 + claimMargin + (0 + 20) ≤ 900; decide, by decide, ⟨[], rfl⟩, rfl⟩
  have hlen := hI.length
  have hSi : AllI vs.length vs.toArray := by
    refine ⟨by simp, fun j hj => ?_⟩
    have get : ∀ {vs : List Value} {ns : List Int}, IntsAre vs ns → ∀ j, j < vs.length → ∃ a t, vs[j]? = some (.int a t) := by
      intro vs ns h
      induction h with
      | nil => intro j hj; simp at hj
      | cons a t _ ih =>
        intro j hj
        cases j with
        | zero => exact ⟨a, t, rfl⟩
        | succ j => exact ih j (by simpa using hj)
    obtain ⟨a, t, e⟩ := get hI j hj
    exact ⟨a, t, by simpa using e⟩
  refine wpAny_mono (law_ct (c := c) (n := 0) ok I hA ((hoth Sa hSa).trans hoS) hcS hdS hSi (by omega)) (fun v s' h => ?_) (fun _ _ z => z)
  obtain ⟨rfl, fs', ld', I'⟩ := h
  refine ⟨rfl, ?_, I'.os, I'.gens⟩
  refine ⟨fun b o e => ?_, fun b o e => ?_⟩
  · by_cases hb : b = PT
    · subst hb
      rw [hPT] at e
      cases e
      obtain ⟨vs', e', _⟩ := I'.tb
      have hT : s₁.heap.TableAt 121 PT #[] := ⟨⟨_, _, KX _ _ rfl, rfl, rfl, rfl⟩, hPT⟩
      exact .inr (.inl ⟨hT.isCodeTable, rfl, #[], vs', rfl, by rw [e']; simp [tableObj]⟩)
    · exact .inl (I'.base b o ((hoth b hb).trans e))
  · by_cases hb : b = PT
    · obtain ⟨vs', e', _⟩ := I'.tb
      exact ⟨_, by rw [hb]; exact e'⟩
    · exact ⟨o, I'.base b o ((hoth b hb).trans e)⟩
end

/-! part F34 -/
set_option maxRecDepth 100000 in
set_option maxHeartbeats 4000000 in
theorem fin : PySem.Challenge.rw_wk0037_01.Holds := hd (by
  intro w s₀ s₁ mg mb G Y fa o pm cd doc dV kV ho hd hcd hD hmg hg args vals as hpre hlay hrd hwl hlo
  have KX := kIn_of Y
  refine Ground.open G ?_
  intro T B D TE TW
  clear hd hcd hD
  have hfa : fa = 323 := by
    have h1 : mg (Str.ofString "law") = some (.ref 323) := ns_eq KX T.g (by kernel_rfl)
    have h2 : mg (Str.ofString "law") = some (.ref fa) := hmg
    rw [h2] at h1
    injection h1 with h1
    injection h1
  subst hfa
  clear hmg G Y
  wrow_args hpre hlay hrd hwl hlo
  rename_i ns _ _ _ _ _ _ _ _ _ _ hL _ _ _ hI _ hn _
  refine wpAny_mono (law_final KX T.g T.b T.nolimit T.builtins hg hL hI (by omega)) (fun v s' h => ?_) (fun _ _ z => z.elim)
  obtain ⟨rfl, hK, hos, hgs⟩ := h
  refine ⟨.inl ⟨.bool true, .bool true, [], rfl, ?_, .bool true, ?_, unshared_nil⟩, hK, hos, hgs⟩
  · intro cls; rfl
  · exact postW_of (by wrow_shape) (by wtm_val) (by first | rfl | (str_meet; first | done | w_fin)))

end Mine
end

theorem PySem.Challenge.cw_wk0037_01_holds : PySem.Challenge.rw_wk0037_01.Holds := by
  exact Mine.fin
