import PyProof.Rows.All
import Wide.All
import OpenK.AllK
import Wide.FinOn
import PySem.Challenge.RW_to0080_01
set_option maxRecDepth 100000
set_option maxHeartbeats 0
set_option Elab.async false
set_option compiler.extract_closed false
namespace Mine
open PySem PySem.W PyProof.Rows PySem.Spec PySem.Calls
abbrev lawRow : OpenRow := OpenLaw.row PySem.Challenge.rw_to0080_01
/-- the law's own text, the statements that stand as their names say -/
def lawView : Program := { (RowW.prog (OpenRow.toRowW lawRow)) with main := { (RowW.prog (OpenRow.toRowW lawRow)).main with body := [0, 1, 4, 5, 6, 7, 8, 9, 10, 11, 12, 14, 15, 16, 17, 19, 20, 21, 23, 24, 25, 27, 29, 30, 31, 32, 33, 34].filterMap fun i => (RowW.prog (OpenRow.toRowW lawRow)).main.body[i]? } }
abbrev lawLoose : List Str := [Str.ofString "compute_powers", Str.ofString "tspecials", Str.ofString "_name_disallowed_re", Str.ofString "_value_disallowed_re", Str.ofString "_formatparam"]
section
local macro_rules | `(tactic| o_head $_:term) => `(tactic| assumption)
theorem hk (h : lawRow.Holds) : lawRow.Holds := by k_head
end
-- the objects that the law does not reach (the start's, the text's own frame, tables that the top throws away)
noncomputable def trips (c : Int) (l : List (Int × Nat)) : List Value := l.flatMap fun x => [Value.int x.1 0, Value.int c 0, Value.ref x.2]
noncomputable def toks : Nat → List Int → List Value
  | _, [] => []
  | t, x :: r => Value.int x t :: toks (t + 1) r
noncomputable def entsOf (o : Obj) : List DictEntry := match o.data with | .dict es _ => es.toList | _ => []
noncomputable def ob13 (P : Params) : Obj := { cls := Value.type "dict", data := Data.dict #[{ hash := PyData.keyHash P (Str.ofString "__module__"), key := Value.str (Str.ofString "__module__") 189, val := Value.str (Str.ofString "_frozen_importlib") 186 }, { hash := PyData.keyHash P (Str.ofString "__firstlineno__"), key := Value.str (Str.ofString "__firstlineno__") 190, val := Value.int 971 187 }, { hash := PyData.keyHash P (Str.ofString "__doc__"), key := Value.str (Str.ofString "__doc__") 191, val := Value.builtin "_frozen_importlib.BuiltinImporter.__doc__:str#opaque" }, { hash := PyData.keyHash P (Str.ofString "_ORIGIN"), key := Value.str (Str.ofString "_ORIGIN") 192, val := Value.str (Str.ofString "built-in") 188 }, { hash := PyData.keyHash P (Str.ofString "find_spec"), key := Value.str (Str.ofString "find_spec") 193, val := Value.builtin "_frozen_importlib.BuiltinImporter.find_spec#opaque" }, { hash := PyData.keyHash P (Str.ofString "create_module"), key := Value.str (Str.ofString "create_module") 194, val := Value.builtin "_frozen_importlib.BuiltinImporter.create_module#opaque" }, { hash := PyData.keyHash P (Str.ofString "exec_module"), key := Value.str (Str.ofString "exec_module") 195, val := Value.builtin "_frozen_importlib.BuiltinImporter.exec_module#opaque" }, { hash := PyData.keyHash P (Str.ofString "get_code"), key := Value.str (Str.ofString "get_code") 196, val := Value.builtin "_frozen_importlib.BuiltinImporter.get_code#opaque" }, { hash := PyData.keyHash P (Str.ofString "get_source"), key := Value.str (Str.ofString "get_source") 197, val := Value.builtin "_frozen_importlib.BuiltinImporter.get_source#opaque" }, { hash := PyData.keyHash P (Str.ofString "is_package"), key := Value.str (Str.ofString "is_package") 198, val := Value.builtin "_frozen_importlib.BuiltinImporter.is_package#opaque" }, { hash := PyData.keyHash P (Str.ofString "load_module"), key := Value.str (Str.ofString "load_module") 199, val := Value.builtin "_frozen_importlib.BuiltinImporter.load_module#opaque" }, { hash := PyData.keyHash P (Str.ofString "__static_attributes__"), key := Value.str (Str.ofString "__static_attributes__") 200, val := Value.ref 15 }, { hash := PyData.keyHash P (Str.ofString "__dict__"), key := Value.str (Str.ofString "__dict__") 202, val := Value.ref 16 }, { hash := PyData.keyHash P (Str.ofString "__weakref__"), key := Value.str (Str.ofString "__weakref__") 204, val := Value.ref 17 }] 14 }
noncomputable def ob21 (P : Params) : Obj := { cls := Value.type "dict", data := Data.dict #[{ hash := PyData.keyHash P (Str.ofString "__module__"), key := Value.str (Str.ofString "__module__") 227, val := Value.str (Str.ofString "_frozen_importlib") 217 }, { hash := PyData.keyHash P (Str.ofString "__firstlineno__"), key := Value.str (Str.ofString "__firstlineno__") 228, val := Value.int 562 218 }, { hash := PyData.keyHash P (Str.ofString "__doc__"), key := Value.str (Str.ofString "__doc__") 229, val := Value.builtin "_frozen_importlib.ModuleSpec.__doc__:str#opaque" }, { hash := PyData.keyHash P (Str.ofString "__init__"), key := Value.str (Str.ofString "__init__") 230, val := Value.builtin "_frozen_importlib.ModuleSpec.__init__#opaque" }, { hash := PyData.keyHash P (Str.ofString "__repr__"), key := Value.str (Str.ofString "__repr__") 231, val := Value.builtin "_frozen_importlib.ModuleSpec.__repr__#opaque" }, { hash := PyData.keyHash P (Str.ofString "__eq__"), key := Value.str (Str.ofString "__eq__") 232, val := Value.builtin "_frozen_importlib.ModuleSpec.__eq__#opaque" }, { hash := PyData.keyHash P (Str.ofString "cached"), key := Value.str (Str.ofString "cached") 233, val := Value.builtin "_frozen_importlib.ModuleSpec.cached#opaque" }, { hash := PyData.keyHash P (Str.ofString "parent"), key := Value.str (Str.ofString "parent") 234, val := Value.builtin "_frozen_importlib.ModuleSpec.parent#opaque" }, { hash := PyData.keyHash P (Str.ofString "has_location"), key := Value.str (Str.ofString "has_location") 235, val := Value.builtin "_frozen_importlib.ModuleSpec.has_location#opaque" }, { hash := PyData.keyHash P (Str.ofString "__static_attributes__"), key := Value.str (Str.ofString "__static_attributes__") 236, val := Value.ref 23 }, { hash := PyData.keyHash P (Str.ofString "__dict__"), key := Value.str (Str.ofString "__dict__") 238, val := Value.ref 24 }, { hash := PyData.keyHash P (Str.ofString "__weakref__"), key := Value.str (Str.ofString "__weakref__") 240, val := Value.ref 25 }, { hash := PyData.keyHash P (Str.ofString "__hash__"), key := Value.str (Str.ofString "__hash__") 241, val := Value.none }] 13 }
noncomputable def sreRaw (P : Params) : Obj := { cls := Value.type "dict", data := Data.dict #[{ hash := PyData.keyHash P (Str.ofString "__name__"), key := Value.str (Str.ofString "__name__") 247, val := Value.str (Str.ofString "_sre") 246 }, { hash := PyData.keyHash P (Str.ofString "__doc__"), key := Value.str (Str.ofString "__doc__") 248, val := Value.none }, { hash := PyData.keyHash P (Str.ofString "__package__"), key := Value.str (Str.ofString "__package__") 250, val := Value.str (Str.ofString "") 249 }, { hash := PyData.keyHash P (Str.ofString "__loader__"), key := Value.str (Str.ofString "__loader__") 251, val := Value.ref 14 }, { hash := PyData.keyHash P (Str.ofString "__spec__"), key := Value.str (Str.ofString "__spec__") 252, val := Value.ref 26 }, { hash := PyData.keyHash P (Str.ofString "compile"), key := Value.str (Str.ofString "compile") 253, val := Value.builtin "_sre.compile" }, { hash := PyData.keyHash P (Str.ofString "template"), key := Value.str (Str.ofString "template") 254, val := Value.builtin "_sre.template" }, { hash := PyData.keyHash P (Str.ofString "getcodesize"), key := Value.str (Str.ofString "getcodesize") 255, val := Value.builtin "_sre.getcodesize" }, { hash := PyData.keyHash P (Str.ofString "ascii_iscased"), key := Value.str (Str.ofString "ascii_iscased") 256, val := Value.builtin "_sre.ascii_iscased" }, { hash := PyData.keyHash P (Str.ofString "unicode_iscased"), key := Value.str (Str.ofString "unicode_iscased") 257, val := Value.builtin "_sre.unicode_iscased" }, { hash := PyData.keyHash P (Str.ofString "ascii_tolower"), key := Value.str (Str.ofString "ascii_tolower") 258, val := Value.builtin "_sre.ascii_tolower" }, { hash := PyData.keyHash P (Str.ofString "unicode_tolower"), key := Value.str (Str.ofString "unicode_tolower") 259, val := Value.builtin "_sre.unicode_tolower" }, { hash := PyData.keyHash P (Str.ofString "MAGIC"), key := Value.str (Str.ofString "MAGIC") 261, val := Value.int 20230612 260 }, { hash := PyData.keyHash P (Str.ofString "CODESIZE"), key := Value.str (Str.ofString "CODESIZE") 263, val := Value.int 4 262 }, { hash := PyData.keyHash P (Str.ofString "MAXREPEAT"), key := Value.str (Str.ofString "MAXREPEAT") 265, val := Value.int 4294967295 264 }, { hash := PyData.keyHash P (Str.ofString "MAXGROUPS"), key := Value.str (Str.ofString "MAXGROUPS") 267, val := Value.int 1073741823 266 }, { hash := PyData.keyHash P (Str.ofString "copyright"), key := Value.str (Str.ofString "copyright") 269, val := Value.str (Str.ofString " SRE 2.2.2 Copyright (c) 1997-2002 by Secret Labs AB ") 268 }] 17 }
noncomputable def sreObj (P : Params) : Obj := (fenceDict? (Str.ofString "_sre") ((tameNamesOf? (Str.ofString "_sre")).getD []) (sreRaw P)).getD default
noncomputable def notes : List Value := trips 0 [(2, 37), (6, 45), (47, 52), (57, 59), (61, 66), (77, 73), (87, 80), (103, 87), (112, 94), (123, 101), (137, 108), (139, 115), (144, 122), (154, 145), (163, 152), (250, 279), (269, 286), (284, 291), (291, 296), (298, 301), (307, 306)]
noncomputable def bare (pk : Array Value → Value) (P : Params) : Frag := [(0, boot_o_0 P), (1, ({ cls := Value.type "dict", data := Data.dict #[{ hash := PyData.keyHash P (Str.ofString "builtins"), key := Value.str (Str.ofString "builtins") 162, val := Value.ref 4 }, { hash := PyData.keyHash P (Str.ofString "__main__"), key := Value.str (Str.ofString "__main__") 163, val := Value.ref 5 }, { hash := PyData.keyHash P (Str.ofString "_sre"), key := Value.str (Str.ofString "_sre") 244, val := Value.ref 12 }] 3 } : Obj)), (4, boot_o_4 P), (5, boot_o_5 P), (6, boot_o_6 P), (7, boot_o_7 P), (8, boot_o_8 P), (9, boot_o_9 P), (10, boot_o_10 P), (11, sreObj P), (12, ({ cls := Value.type "module", dict := some 11 } : Obj)), (13, ob13 P), (14, ({ cls := Value.type "type", data := Data.cls { name := Str.ofString "BuiltinImporter", bases := [Value.type "object"], mro := [Value.ref 14, Value.type "object"], ns := 13, qualname := Str.ofString "BuiltinImporter" } } : Obj)), (15, ({ cls := Value.type "tuple", data := Data.seq #[] } : Obj)), (16, ({ cls := Value.type "getset_descriptor", data := Data.fields #[Value.str (Str.ofString "__dict__") 201, Value.ref 14, Value.builtin "function.__dict__", Value.builtin "function.__dict__#set"] } : Obj)), (17, ({ cls := Value.type "getset_descriptor", data := Data.fields #[Value.str (Str.ofString "__weakref__") 203, Value.ref 14, Value.builtin "ExceptionGroup.__weakref__", Value.none] } : Obj)), (18, ({ cls := Value.none, data := Data.seq #[Value.int 13 0, pk (Builtin.flatEntries ⟨entsOf (ob13 P)⟩), Value.bool true, Value.bool true, Value.str (Str.ofString "") 205, Value.int 21 0, pk (Builtin.flatEntries ⟨entsOf (ob21 P)⟩), Value.bool true, Value.bool true, Value.str (Str.ofString "") 242] 1 } : Obj)), (19, ({ cls := Value.type "list", data := Data.seq #[] } : Obj)), (20, ({ cls := Value.type "dict", data := Data.dict #[{ hash := PyData.keyHash P (Str.ofString "name"), key := Value.str (Str.ofString "name") 208, val := Value.str (Str.ofString "_sre") 207 }, { hash := PyData.keyHash P (Str.ofString "loader"), key := Value.str (Str.ofString "loader") 209, val := Value.ref 14 }, { hash := PyData.keyHash P (Str.ofString "origin"), key := Value.str (Str.ofString "origin") 210, val := Value.str (Str.ofString "built-in") 184 }, { hash := PyData.keyHash P (Str.ofString "loader_state"), key := Value.str (Str.ofString "loader_state") 211, val := Value.none }, { hash := PyData.keyHash P (Str.ofString "submodule_search_locations"), key := Value.str (Str.ofString "submodule_search_locations") 212, val := Value.none }, { hash := PyData.keyHash P (Str.ofString "_uninitialized_submodules"), key := Value.str (Str.ofString "_uninitialized_submodules") 213, val := Value.ref 19 }, { hash := PyData.keyHash P (Str.ofString "_set_fileattr"), key := Value.str (Str.ofString "_set_fileattr") 214, val := Value.bool false }, { hash := PyData.keyHash P (Str.ofString "_cached"), key := Value.str (Str.ofString "_cached") 215, val := Value.none }, { hash := PyData.keyHash P (Str.ofString "_initializing"), key := Value.str (Str.ofString "_initializing") 243, val := Value.bool false }] 9 } : Obj)), (21, ob21 P), (22, ({ cls := Value.type "type", data := Data.cls { name := Str.ofString "ModuleSpec", bases := [Value.type "object"], mro := [Value.ref 22, Value.type "object"], ns := 21, qualname := Str.ofString "ModuleSpec" } } : Obj)), (23, ({ cls := Value.type "tuple", data := Data.seq #[Value.str (Str.ofString "_cached") 219, Value.str (Str.ofString "_set_fileattr") 220, Value.str (Str.ofString "_uninitialized_submodules") 221, Value.str (Str.ofString "loader") 222, Value.str (Str.ofString "loader_state") 223, Value.str (Str.ofString "name") 224, Value.str (Str.ofString "origin") 225, Value.str (Str.ofString "submodule_search_locations") 226] } : Obj)), (24, ({ cls := Value.type "getset_descriptor", data := Data.fields #[Value.str (Str.ofString "__dict__") 237, Value.ref 22, Value.builtin "function.__dict__", Value.builtin "function.__dict__#set"] } : Obj)), (25, ({ cls := Value.type "getset_descriptor", data := Data.fields #[Value.str (Str.ofString "__weakref__") 239, Value.ref 22, Value.builtin "ExceptionGroup.__weakref__", Value.none] } : Obj)), (26, ({ cls := Value.ref 22, dict := some 20 } : Obj)), (27, ({ cls := Value.none, data := Data.seq #[Value.int 11 0, pk (Builtin.flatEntries ⟨entsOf (sreRaw P)⟩), Value.bool true, Value.bool false, Value.str (Str.ofString "_sre") 271] } : Obj)), (28, ({ cls := Value.type "tuple", data := Data.seq #[] } : Obj)), (29, { cls := Value.none, data := Data.fields ⟨notes⟩ }), (30, ({ cls := Value.type "code", data := Data.fields #[Value.str (Str.ofString "<module>") 277, Value.str (Str.ofString "<module>") 278, Value.str (Str.ofString "/claim/cut.py") 279, Value.int 1 0, Value.int 0 0, Value.int 0 0, Value.int 0 0, Value.int 0 0, Value.ref 28, Value.bool false, Value.int 276 0, Value.ref 29, Value.none, Value.none, Value.none, Value.none, Value.int 280 0, Value.int 1 0, Value.str (Str.ofString "/claim/cut.py") 281] } : Obj)), (31, ({ cls := Value.type "frame", slots := #[some (Value.ref 30), some (Value.ref 3), some (Value.ref 3), none, some (Value.str (Str.ofString "__main__") 164), none, some (Value.ref 0)] } : Obj)), (124, ({ cls := Value.type "list", data := Data.seq ⟨toks 448 [14, 14, 4, 1, 1, 9, 0, 4227896069, 939524097, 0, 0, 0, 0, 0, 0, 13, 11, 9, 0, 4227896069, 939524097, 0, 0, 0, 0, 0, 0, 1]⟩ } : Obj)), (125, ({ cls := Value.type "dict", data := Data.dict #[] } : Obj)), (126, ({ cls := Value.type "tuple", data := Data.seq #[Value.none] } : Obj)), (129, ({ cls := Value.type "list", data := Data.seq ⟨toks 482 [14, 10, 4, 1, 1, 22, 0, 31, 16, 127, 0, 13, 7, 22, 0, 31, 16, 127, 0, 1]⟩ } : Obj)), (130, ({ cls := Value.type "dict", data := Data.dict #[] } : Obj)), (131, ({ cls := Value.type "tuple", data := Data.seq #[Value.none] } : Obj)), (134, ({ cls := Value.type "list", data := Data.seq ⟨toks 508 [14, 14, 4, 1, 1, 9, 4294966783, 0, 0, 2147483648, 0, 0, 0, 0, 0, 13, 11, 9, 4294966783, 0, 0, 2147483648, 0, 0, 0, 0, 0, 1]⟩ } : Obj)), (135, ({ cls := Value.type "dict", data := Data.dict #[] } : Obj)), (136, ({ cls := Value.type "tuple", data := Data.seq #[Value.none] } : Obj)), (147, ({ cls := Value.type "tuple", data := Data.seq #[] } : Obj)), (148, ({ cls := Value.type "builtin_function_or_method", data := Data.fields #[Value.builtin "type.__prepare__", Value.type "type"] } : Obj)), (149, ({ cls := Value.type "dict", data := Data.dict #[{ hash := PyData.keyHash P (Str.ofString "__module__"), key := Value.str (Str.ofString "__module__") 556, val := Value.str (Str.ofString "cpy313.wsgiref.headers") 443 }, { hash := PyData.keyHash P (Str.ofString "__qualname__"), key := Value.str (Str.ofString "__qualname__") 558, val := Value.str (Str.ofString "Headers") 557 }, { hash := PyData.keyHash P (Str.ofString "__firstlineno__"), key := Value.str (Str.ofString "__firstlineno__") 560, val := Value.int 163 559 }, { hash := PyData.keyHash P (Str.ofString "__init__"), key := Value.str (Str.ofString "__init__") 570, val := Value.ref 161 }, { hash := PyData.keyHash P (Str.ofString "_convert_string_type"), key := Value.str (Str.ofString "_convert_string_type") 580, val := Value.ref 168 }, { hash := PyData.keyHash P (Str.ofString "__len__"), key := Value.str (Str.ofString "__len__") 587, val := Value.ref 175 }, { hash := PyData.keyHash P (Str.ofString "__setitem__"), key := Value.str (Str.ofString "__setitem__") 596, val := Value.ref 182 }, { hash := PyData.keyHash P (Str.ofString "__delitem__"), key := Value.str (Str.ofString "__delitem__") 602, val := Value.ref 187 }, { hash := PyData.keyHash P (Str.ofString "__getitem__"), key := Value.str (Str.ofString "__getitem__") 610, val := Value.ref 194 }, { hash := PyData.keyHash P (Str.ofString "__contains__"), key := Value.str (Str.ofString "__contains__") 618, val := Value.ref 201 }, { hash := PyData.keyHash P (Str.ofString "get_all"), key := Value.str (Str.ofString "get_all") 626, val := Value.ref 208 }, { hash := PyData.keyHash P (Str.ofString "get"), key := Value.str (Str.ofString "get") 637, val := Value.ref 216 }, { hash := PyData.keyHash P (Str.ofString "keys"), key := Value.str (Str.ofString "keys") 643, val := Value.ref 221 }, { hash := PyData.keyHash P (Str.ofString "values"), key := Value.str (Str.ofString "values") 649, val := Value.ref 226 }, { hash := PyData.keyHash P (Str.ofString "items"), key := Value.str (Str.ofString "items") 656, val := Value.ref 233 }, { hash := PyData.keyHash P (Str.ofString "__repr__"), key := Value.str (Str.ofString "__repr__") 663, val := Value.ref 240 }, { hash := PyData.keyHash P (Str.ofString "__str__"), key := Value.str (Str.ofString "__str__") 669, val := Value.ref 245 }, { hash := PyData.keyHash P (Str.ofString "__bytes__"), key := Value.str (Str.ofString "__bytes__") 676, val := Value.ref 252 }, { hash := PyData.keyHash P (Str.ofString "setdefault"), key := Value.str (Str.ofString "setdefault") 686, val := Value.ref 259 }, { hash := PyData.keyHash P (Str.ofString "add_header"), key := Value.str (Str.ofString "add_header") 699, val := Value.ref 266 }, { hash := PyData.keyHash P (Str.ofString "__static_attributes__"), key := Value.str (Str.ofString "__static_attributes__") 701, val := Value.ref 267 }] 21 } : Obj)), (150, ({ cls := Value.type "tuple", data := Data.seq #[] } : Obj)), (151, ({ cls := Value.none, data := Data.fields ⟨trips 4 [(165, 160), (175, 167), (183, 174), (186, 181), (190, 186), (194, 193), (197, 200), (200, 207), (203, 215), (210, 220), (213, 225), (216, 232), (219, 239), (222, 244), (225, 251), (228, 258), (236, 265)]⟩ } : Obj)), (152, ({ cls := Value.type "code", data := Data.fields #[Value.str (Str.ofString "Headers") 551, Value.str (Str.ofString "Headers") 552, Value.str (Str.ofString "/claim/cut.py") 553, Value.int 163 0, Value.int 0 0, Value.int 0 0, Value.int 0 0, Value.int 0 0, Value.ref 150, Value.bool false, Value.int 276 0, Value.ref 151, Value.none, Value.none, Value.none, Value.none, Value.int 554 0, Value.int 163 0, Value.str (Str.ofString "/claim/cut.py") 555] } : Obj)), (153, ({ cls := Value.type "frame", slots := #[some (Value.ref 152), some (Value.ref 3), some (Value.ref 149), none, some (Value.str (Str.ofString "cpy313.wsgiref.headers") 443), none, some (Value.ref 0)] } : Obj)), (272, ({ cls := Value.type "super", data := Data.fields #[Value.ref 269, Value.ref 269, Value.ref 269] } : Obj)), (273, ({ cls := Value.type "builtin_function_or_method", data := Data.fields #[Value.builtin "object.__init_subclass__", Value.ref 269] } : Obj))]
/-- what stands between the reached objects: a def's text (its function follows it by two), else an empty note -/
noncomputable def gap (a : Nat) : Frag → Obj
  | (b, _) :: (_, o) :: _ => match Nat.beq (a + 1) b, o.data with
    | true, .func f => { cls := .none, data := .func { name := f.name, qualname := f.qualname, params := f.params, body := f.body, scope := f.scope, globals := 0, closure := [], defaults := .none, kwdefaults := .none } }
    | _, _ => { cls := .none, data := .fields #[] }
  | _ => { cls := .none, data := .fields #[] }
noncomputable def lay : Nat → Nat → Frag → Frag → List Obj
  | 0, _, _, _ => []
  | _ + 1, _, [], _ => []
  | n + 1, a, (b, o) :: k, ex => match Nat.beq a b, ex with
    | true, ex => o :: lay n (a + 1) k ex
    | false, (c, x) :: ex' => match Nat.beq a c with
      | true => x :: lay n (a + 1) ((b, o) :: k) ex'
      | false => gap a ((b, o) :: k) :: lay n (a + 1) ((b, o) :: k) ex
    | false, [] => gap a ((b, o) :: k) :: lay n (a + 1) ((b, o) :: k) ex
/-- every object as the top leaves it -/
noncomputable def allObsG (pk : Array Value → Value) (P : Params) : List Obj := lay 308 0 (hk.heap_1 P) (bare pk P)
noncomputable abbrev allObs (P : Params) : List Obj := allObsG Builtin.packed P
/-- the names' table when m names are bound and __name__ is nm -/
noncomputable def nsAt (nm : Value) (m : Nat) (P : Params) : Obj := { cls := .type "dict", data := .dict ⟨(((hk.heap_1 P)[1]?.elim [] fun x => entsOf x.2).take m).modifyHead fun e => { e with val := nm }⟩ m }
noncomputable def notesAt (f : Nat) : Obj := { cls := .none, data := .fields ⟨notes.take f⟩ }
/-- the heap when n objects are laid -/
noncomputable def heapAt (n : Nat) (nm : Value) (m f : Nat) (P : Params) : Heap := ⟨⟨(((allObs P).take n).set 3 (nsAt nm m P)).set 29 (notesAt f)⟩, {}⟩
noncomputable def heapImp (pk : Array Value → Value) (P : Params) : Heap := ⟨⟨(((allObsG pk P).take 28).set 3 (nsAt (.str (Str.ofString "__main__") 164) 10 P)).set 11 (sreRaw P)⟩, {}⟩
noncomputable def heapEnd (P : Params) : Heap := ⟨⟨allObs P⟩, {}⟩
abbrev PW : Program := RowW.prog (OpenRow.toRowW lawRow)
noncomputable abbrev topEnv : Env := { scope := PW.main.scope, locals := mainNs, globals := mainNs, cells := [], code := .ref 30, frame := some 31 }
noncomputable abbrev topCode : Code := .body (behindTheImports PW) topEnv
abbrev pos0 : Pos := ⟨0, 0, 0, 0⟩
noncomputable abbrev topB : List Frame := [topFrame pos0]
noncomputable abbrev shAt (H : Heap) (k : Nat) (os : OsState) : Shared := ⟨H, #[], {}, k, os⟩
abbrev mainV : Value := .str (Str.ofString "__main__") 164
abbrev annV : Option Value := some (.ref 6)
theorem topImp (w : World) : importEnds treeTable (opening PW) w 799 (start (opening PW)).1 (start (opening PW)).2 = some ⟨heapImp Builtin.packed w.params, #[], {}, 276, (start (opening PW)).1.os⟩ := by
  rw [PySem.W.Fast.te10274390034422433532, PySem.W.Fast.te1435165496053646825, PySem.W.Fast.te14364793385576792824, PySem.W.Fast.te18129864485346669323]
  kernel_rfl
theorem topFence (w : World) : (fun os => (fenceModules? PW ⟨heapImp Builtin.packed w.params, #[], {}, 276, os⟩).map (fun s => (s.heap, s.gens, s.drawn, s.toks))) = fun _ => some (heapAt 28 mainV 10 0 w.params, #[], {}, 276) := by
  kernel_rfl
theorem topOpen (w : World) : (fencedOpening treeTable PW w 3504).map (fun s => (s.heap, s.gens, s.drawn, s.toks)) = some (heapAt 28 mainV 10 0 w.params, #[], {}, 276) := open_cut (He := heapImp Builtin.packed) topImp rfl topFence w
theorem topSize (w : World) : ((heapAt 28 mainV 10 0 w.params).isNs mainGlobals && (#[] : Array GenState).size == 0, (heapAt 28 mainV 10 0 w.params).objs.size, (heapAt 28 mainV 10 0 w.params).nsMap mainGlobals "__annotations__") = (true, 28, annV) := by
  kernel_rfl
theorem topPre (w : World) (os : OsState) : topGo treeTable PW w 28 annV 12 (shAt (heapAt 28 mainV 10 0 w.params) 276 os) (topStub PW) = some (shAt (heapAt 32 mainV 10 0 w.params) 282 os, ⟨denote treeTable topCode, topCode, pos0, topB⟩) := by
  rw [PySem.W.Fast.te15667345088766844465, PySem.W.Fast.te11892475500146522536, PySem.W.Fast.te14364793385576792824]
  kernel_rfl
theorem topBlock (w : World) (os : OsState) : segRun treeTable PW w 28 annV 1 1 (shAt (heapAt 32 mainV 10 0 w.params) 282 os) (blockOf (behindTheImports PW) topEnv topCode pos0 topB) = some (.next, shAt (heapAt 32 mainV 10 0 w.params) 282 os, topCode, pos0) := by
  rw [PySem.W.Fast.te14374325043358763698, PySem.W.Fast.te14364793385576792824]
  kernel_rfl
noncomputable abbrev rest0 : List Stmt := behindTheImports PW
noncomputable abbrev part1 : List Stmt := rest0.take 12
noncomputable abbrev rest1 : List Stmt := rest0.drop 12
theorem topRun1 (w : World) (os : OsState) : segRun treeTable PW w 28 annV 1 363 (shAt (heapAt 32 mainV 10 0 w.params) 282 os) (piecesOf part1 topEnv topCode pos0 topB) = some (.next, shAt (heapAt 103 (Value.str (Str.ofString "cpy313._pylong") 289) 21 30 w.params) 409 os, topCode, ⟨123, 0, 133, 32⟩) := by
  rw [PySem.W.Fast.te14374325043358763698, PySem.W.Fast.te14364793385576792824]
  kernel_rfl
noncomputable abbrev part2 : List Stmt := rest1.take 14
noncomputable abbrev rest2 : List Stmt := rest1.drop 14
theorem topRun2 (w : World) (os : OsState) : segRun treeTable PW w 28 annV 1 408 (shAt (heapAt 103 (Value.str (Str.ofString "cpy313._pylong") 289) 21 30 w.params) 409 os) (piecesOf part2 topEnv topCode ⟨123, 0, 133, 32⟩ topB) = some (.next, shAt (heapAt 147 (Value.str (Str.ofString "cpy313.wsgiref.headers") 443) 32 42 w.params) 549 os, topCode, ⟨154, 0, 162, 20⟩) := by
  rw [PySem.W.Fast.te14374325043358763698, PySem.W.Fast.te14364793385576792824]
  kernel_rfl
noncomputable abbrev part3 : List Stmt := rest2.take 1
noncomputable abbrev rest3 : List Stmt := rest2.drop 1
theorem topRun3 (w : World) (os : OsState) : segRun treeTable PW w 28 annV 1 732 (shAt (heapAt 147 (Value.str (Str.ofString "cpy313.wsgiref.headers") 443) 32 42 w.params) 549 os) (piecesOf part3 topEnv topCode ⟨154, 0, 162, 20⟩ topB) = some (.next, shAt (heapAt 274 (Value.str (Str.ofString "cpy313.wsgiref.headers") 443) 33 45 w.params) 709 os, topCode, ⟨163, 0, 248, 93⟩) := by
  rw [PySem.W.Fast.te14374325043358763698, PySem.W.Fast.te14364793385576792824]
  kernel_rfl
noncomputable abbrev part4 : List Stmt := rest3.take 7
noncomputable abbrev rest4 : List Stmt := rest3.drop 7
theorem topRun4 (w : World) (os : OsState) : segRun treeTable PW w 28 annV 1 190 (shAt (heapAt 274 (Value.str (Str.ofString "cpy313.wsgiref.headers") 443) 33 45 w.params) 709 os) (piecesOf part4 topEnv topCode ⟨163, 0, 248, 93⟩ topB) = some (.next, shAt (heapAt 308 (Value.str (Str.ofString "law_to0080_01") 709) 39 63 w.params) 767 os, topCode, ⟨307, 0, 317, 90⟩) := by
  rw [PySem.W.Fast.te14374325043358763698, PySem.W.Fast.te14364793385576792824]
  kernel_rfl
theorem topFin (w : World) (os : OsState) : topRun treeTable PW w 28 annV 2 (shAt (heapAt 308 (Value.str (Str.ofString "law_to0080_01") 709) 39 63 w.params) 767 os) ⟨doneF .next, topCode, ⟨307, 0, 317, 90⟩, topB⟩ = some (shAt (heapEnd w.params) 767 os) := by
  rw [PySem.W.Fast.te14082659384304107361, PySem.W.Fast.te14364793385576792824]
  kernel_rfl
theorem rest4_nil : rest4 = [] := by kernel_rfl
theorem topAll (w : World) (os : OsState) : topRun treeTable PW w 28 annV (12 + (1 + (363 + (408 + (732 + (190 + 2)))))) (shAt (heapAt 28 mainV 10 0 w.params) 276 os) (topStub PW) = some (shAt (heapEnd w.params) 767 os) := by
  refine go_top (topPre w os) (piece_block (topBlock w os) ?_)
  show topRun _ _ _ _ _ _ _ (restOf rest0 topEnv topCode pos0 topB) = _
  rw [show rest0 = part1 ++ rest1 from (List.take_append_drop _ _).symm]
  refine piece_app (topRun1 w os) ?_
  rw [show rest1 = part2 ++ rest2 from (List.take_append_drop _ _).symm]
  refine piece_app (topRun2 w os) ?_
  rw [show rest2 = part3 ++ rest3 from (List.take_append_drop _ _).symm]
  refine piece_app (topRun3 w os) ?_
  rw [show rest3 = part4 ++ rest4 from (List.take_append_drop _ _).symm]
  refine piece_app (topRun4 w os) ?_
  rw [rest4_nil]
  exact piece_nil (topFin w os)
noncomputable abbrev sE (w : World) (os : OsState) : Shared := shAt (heapEnd w.params) 767 os
abbrev mods : List Str := importedModules PW.main.body
noncomputable abbrev kAs : List Addr := [2, 3, 32, 34, 35, 37, 38, 39, 40, 42, 43, 45, 46, 47, 49, 50, 52, 53, 54, 56, 57, 59, 60, 61, 63, 64, 66, 67, 68, 70, 71, 73, 74, 75, 77, 78, 80, 81, 82, 84, 85, 87, 88, 89, 91, 92, 94, 95, 96, 98, 99, 101, 102, 103, 105, 106, 108, 109, 110, 112, 113, 115, 116, 117, 119, 120, 122, 123, 127, 128, 132, 133, 137, 138, 139, 140, 142, 143, 145, 146, 154, 155, 157, 158, 160, 161, 162, 164, 165, 167, 168, 169, 171, 172, 174, 175, 176, 178, 179, 181, 182, 183, 186, 187, 188, 190, 191, 193, 194, 195, 197, 198, 200, 201, 202, 204, 205, 207, 208, 209, 210, 212, 213, 215, 216, 217, 220, 221, 222, 225, 226, 227, 229, 230, 232, 233, 234, 236, 237, 239, 240, 241, 244, 245, 246, 248, 249, 251, 252, 253, 255, 256, 258, 259, 260, 262, 263, 265, 266, 267, 268, 269, 270, 271, 274, 276, 277, 279, 280, 281, 283, 284, 286, 287, 288, 291, 292, 293, 296, 297, 298, 301, 302, 303, 306, 307]
theorem kAs_is (P : Params) : kAs = (hk.heap_1 P).map (·.1) := by kernel_rfl
noncomputable abbrev kH : Hook := kHook hk.heap_1 kAs kAs_is
theorem look1 (w : World) (os : OsState) : (staticsOk mods (heapAt 28 mainV 10 0 w.params) (heapEnd w.params) && namesBound PW (heapEnd w.params) && gensDone (sE w os) && laidKept (heapAt 28 mainV 10 0 w.params) (heapEnd w.params)) = true := by kernel_rfl
theorem look2 (w : World) (os : OsState) : seen ((recsOf lawView).map (·.name)) (ownsOf lawView) [] { sE w os with gens := #[] } = expectedOf lawView := by kernel_rfl
theorem look3 (w : World) : (heapEnd w.params).bltView = bltViewBooted := by kernel_rfl
theorem look4 (w : World) (os : OsState) : ((heapEnd w.params).keysOk (looseW lawView lawLoose) ((recsOf lawView).map (·.name)) ((litsOf lawView).map (·.1)) ((clssOf lawView (looseW lawView lawLoose)).map (·.name)) && (heapEnd w.params).accountedOkI mods && (heapEnd w.params).isNs mainGlobals && (heapEnd w.params).isNs builtinsNs && tablesOk lawView (heapEnd w.params) && (xlAt lawView [] (sE w os) && recOk (RowW.records (OpenRow.toRowW lawRow)) (sE w os)) && (#[] : Array GenState).size == 0) = true := by kernel_rfl
theorem look5 (w : World) (os : OsState) : tabsOk lawView (sE w os) = true := by kernel_rfl
theorem look6 (w : World) (os : OsState) : pinSeenD lawView (drecsOf lawView) (sE w os) = pinGoodD (drecsOf lawView) := by kernel_rfl
theorem look7 (w : World) (os : OsState) : plainSeenE lawView (looseW lawView lawLoose) (sE w os) = plainGoodE lawView (looseW lawView lawLoose) := by kernel_rfl
theorem look8 (w : World) (os : OsState) : plainSeenD lawView lawLoose (sE w os) = plainGoodD lawView lawLoose := by kernel_rfl
theorem look9 (w : World) (os : OsState) : wideSeen lawView (sE w os) = wideGood lawView := by kernel_rfl
theorem look10 (w : World) (os : OsState) : clsSeenW lawView lawLoose (sE w os) = clsGoodW lawView lawLoose := by kernel_rfl
theorem look11 (w : World) (os : OsState) : kH.obs (sE w os) = kH.val w := by kernel_rfl
theorem leftO : LeftO PW lawView lawLoose (fun s => xlAt lawView [] s && recOk (RowW.records (OpenRow.toRowW lawRow)) s) kH.obs kH.val 3504 :=
  LeftO.of_pieces (H₀ := heapAt 28 mainV 10 0) (H₁ := heapEnd) (gs₀ := #[]) (gs₁ := #[]) (d₀ := {}) (d₁ := {}) (k₀ := 276) (k₁ := 767) topOpen topSize topAll rfl fun w => funext fun os =>
    looks_pair (look1 w os) (looks_pair (looks_pair (look2 w os) (looks_pair (look3 w) (looks_pair (look4 w os) (looks_pair (look5 w os) (looks_pair (look6 w os) (looks_pair (look7 w os) (looks_pair (look8 w os) (looks_pair (look9 w os) (look10 w os))))))))) (look11 w os))
set_option hygiene false in
local macro_rules | `(tactic| k_head) => `(tactic| refine PySem.W.holds_open (r := lawRow) (q := lawView) (loose := lawLoose) (Xt := fun s => xlAt lawView [] s && recOk (RowW.records (OpenRow.toRowW lawRow)) s) (XP := XL lawView []) (Yf := kH.obs) (Ya := kH.val) (YP := kH.says) (N := 3504) leftO (Hook.of kH) (Hook.keeps kH) (fun s e => xl_of s (Bool.and_eq_true_iff.mp e).1) XL.keeps (by rfl) (by rfl) (by rfl) (fun s e => recFacts_of (Bool.and_eq_true_iff.mp e).2) (by rfl) (by first | assumption | decide +kernel) (by decide +kernel) ⟨rfl, rfl, rfl, rfl, rfl, by decide +kernel⟩ ?hw ?hc)
abbrev lawL : OpenLaw := PySem.Challenge.rw_to0080_01
theorem said1 : sreFenced PW.main = true := by kernel_rfl
theorem said2 : ((moduleNames PW.main.body).isEmpty || lookedIntoSs (moduleNames PW.main.body) PW.main.body) = true := by kernel_rfl
theorem said3 : namesResolve PW = true := by
  rw [PySem.W.Fast.te8377067652309620493]
  kernel_rfl
theorem said4 : noRoadLSs { strict := !(importedModules PW.main.body).all cThrough.contains, foot := none, bare := (["vars", "dir", "locals"] : List Str).filter (readsOut PW PW.main.body) } PW.main.body = true := by
  rw [PySem.W.Fast.te8326940854005059898, PySem.W.Fast.te13343964577679436407, PySem.W.Fast.te5923862056798008813]
  kernel_rfl
theorem said5 : (namesMeet PW PW.main.body fun _ n => attrL n) = true := by
  rw [PySem.W.Fast.te17119622794617984870, PySem.W.Fast.te17868728402115742887]
  kernel_rfl
theorem saidRow : lawRow.wellSaid = true := by
  unfold OpenRow.wellSaid OpenRow.partSaid looksOpen
  repeat' with_reducible refine look_both ?_ ?_
  all_goals with_reducible first | exact said1 | exact said2 | exact said3 | exact said4 | exact said5 | kernel_rfl
theorem said6 : lawL.footing.all footLine = true := by kernel_rfl
theorem said7 : noClassBlock lawL.prog lawL.footing = true := by kernel_rfl
theorem said8 : noRoadLSs { strict := true, foot := some lawL.bound', writes := lawL.writes, may := lawL.may } lawL.footing = true := by kernel_rfl
theorem said9 : defStands lawL.about lawL.above = true := by kernel_rfl
theorem said10 : lawL.namesIt = true := by kernel_rfl
theorem said11 : lawL.bound'.all (fun n => !builtinNamed n || lawL.about == [n] || !lawL.reads n) = true := by kernel_rfl
theorem said12 : (lawL.prog.main.body.flatMap importedNames).all (fun n => !lawL.reads n || (drawsOf n lawL.prog.main.body).all fun mn => mn.2 != ("attrgetter" : Str) && mn.2 != ("methodcaller" : Str)) = true := by kernel_rfl
theorem said13 : namesMeet lawL.prog lawL.footing (fun sc n => (!(["type", "isinstance", "issubclass", "getattr", "hasattr"] : List Str).contains n || sc.names.lookup n == some .globalImplicit) &&
    (lawL.may != some n || sc.kind == .module || sc.names.lookup n == some .globalImplicit)) = true := by kernel_rfl
theorem said14 : lawL.own.all (fun n => !builtinNamed n) = true := by kernel_rfl
theorem said15 : (namesMeet lawL.prog lawL.above (fun _ n => !lawL.own.contains n)) = true := by kernel_rfl
theorem said16 : (namesMeet lawL.prog lawL.footing fun sc n => sc.kind == .module || sc.names.lookup n != some .globalExplicit) = true := by kernel_rfl
theorem lawSaid : PySem.Challenge.rw_to0080_01.wellSaid = true := by
  unfold OpenLaw.wellSaid
  repeat' with_reducible refine look_both ?_ ?_
  all_goals with_reducible first | exact saidRow | exact said6 | exact said7 | exact said8 | exact said9 | exact said10 | exact said11 | exact said12 | exact said13 | exact said14 | exact said15 | exact said16 | kernel_rfl
local macro_rules | `(tactic| o_law) => `(tactic| refine holds_law lawSaid fun said => ?_)
open_top hd for PySem.Challenge.rw_to0080_01

theorem top_off : True := by
  w_top off
  exact True.intro
local macro_rules | `(tactic| walk_at $s:str) => `(tactic| k_extra $s)
section
open PySem.Builtin.Re

def plainS (s : Str) : Prop := s.cps.size ≤ 1000 ∧ ∀ c ∈ s.cps.toList, 32 ≤ c ∧ c < 127

theorem slot_search : Slot "re.Pattern" "search" "re.Pattern.search" :=
  .of (owner := "re.Pattern") (n := "search") (by rw [typeLookup_type, builtinLookup_eq_fast]; kernel_rfl) (by decide +kernel) (by decide +kernel) (by decide +kernel)
    (by first | exact .inl (by decide +kernel) | exact .inr (by decide +kernel)) (by rw [isSubtype_type]; kernel_rfl)
theorem type_search : typeOf (.builtin "re.Pattern.search") = pure (.type "method_descriptor") := by show builtinType _ = _; rw [builtinType_eq_fast]; kernel_rfl
theorem entry_search : entryFor table "re.Pattern.search" = some Builtin.«re.Pattern.search» := entryFor_of_tree (by kernel_rfl)
theorem plainAttrs_pattern : PlainAttrs "re.Pattern" :=
  ⟨⟨"object.__getattribute__", by rw [typeLookup_type, builtinLookup_eq_fast]; kernel_rfl, by decide +kernel⟩, by rw [typeLookup_type, builtinLookup_eq_fast]; kernel_rfl⟩
theorem owner_pattern : Manifest.owners.lookup (String.ofList ['n', 'r', 'e', 't', 't', 'a', 'P', '.', 'e', 'r'].reverse) = some Manifest.sig_re_Pattern := by kernel_rfl
theorem args_search (a b : Value) : argsOk "re.Pattern.search" ⟨[a, b], []⟩ := by
  unfold argsOk; rw [signature?_of (id := "re.Pattern.search") (n := ['h', 'c', 'r', 'a', 'e', 's']) (o := ['n', 'r', 'e', 't', 't', 'a', 'P', '.', 'e', 'r']) (by kernel_rfl) owner_pattern]; kernel_rfl

/-- the two patterns' codes -/
def codeN : Array Nat := #[14, 10, 4, 1, 1, 22, 0, 31, 16, 127, 0, 13, 7, 22, 0, 31, 16, 127, 0, 1]
def codeV : Array Nat := #[14, 14, 4, 1, 1, 9, 4294966783, 0, 0, 2147483648, 0, 0, 0, 0, 0, 13, 11, 9, 4294966783, 0, 0, 2147483648, 0, 0, 0, 0, 0, 1]

def offSet (code : Array Nat) : Prop := ∀ c, 32 ≤ c → c < 127 → ∀ seen, ∃ seen', Sre.inSet code c code.size 5 true seen = .ok (false, seen')

theorem in_range {code : Array Nat} {c fuel i : Nat} {yes : Bool} {seen : Sre.Seen} (h : Sre.ops[code.getD i 0]? = some .RANGE) (hn : (decide (code.getD (i + 1) 0 ≤ c) && decide (c ≤ code.getD (i + 2) 0)) = false) :
    Sre.inSet code c (fuel + 1) i yes seen = Sre.inSet code c fuel (i + 3) yes (seen.add (code.getD i 0)) := by
  rw [Sre.inSet]; simp only [Nat.add_zero, h, hn]; rfl
theorem in_literal {code : Array Nat} {c fuel i : Nat} {yes : Bool} {seen : Sre.Seen} (h : Sre.ops[code.getD i 0]? = some .LITERAL) (hn : (c == code.getD (i + 1) 0) = false) :
    Sre.inSet code c (fuel + 1) i yes seen = Sre.inSet code c fuel (i + 2) yes (seen.add (code.getD i 0)) := by
  rw [Sre.inSet]; simp only [Nat.add_zero, h, hn]; rfl
theorem in_charset {code : Array Nat} {c fuel i : Nat} {yes : Bool} {seen : Sre.Seen} (h : Sre.ops[code.getD i 0]? = some .CHARSET) (hn : (decide (c < 256) && (code.getD (i + (1 + c / 32)) 0).testBit (c % 32)) = false) :
    Sre.inSet code c (fuel + 1) i yes seen = Sre.inSet code c fuel (i + 9) yes (seen.add (code.getD i 0)) := by
  rw [Sre.inSet]; simp only [Nat.add_zero, h, hn]; rfl
theorem in_failure {code : Array Nat} {c fuel i : Nat} {yes : Bool} {seen : Sre.Seen} (h : Sre.ops[code.getD i 0]? = some .FAILURE) :
    Sre.inSet code c (fuel + 1) i yes seen = .ok (!yes, seen.add (code.getD i 0)) := by
  rw [Sre.inSet]; simp only [Nat.add_zero, h]
theorem offN : offSet codeN := by
  intro c h1 h2 seen
  refine ⟨((seen.add 22).add 16).add 0, ?_⟩
  show Sre.inSet codeN c (17+3) 5 true seen = _
  rw [in_range rfl (by rw [show codeN.getD (5 + 2) 0 = 31 from rfl, show codeN.getD (5 + 1) 0 = 0 from rfl]; simp; omega)]
  rw [in_literal rfl (by rw [show codeN.getD (5 + 3 + 1) 0 = 127 from rfl]; simp; omega)]
  rw [in_failure rfl]
  rfl
theorem bitsV : ∀ c : Fin 127, 32 ≤ c.val → (decide (c.val < 256) && (codeV.getD (5 + (1 + c.val / 32)) 0).testBit (c.val % 32)) = false := by decide +kernel
theorem offV : offSet codeV := by
  intro c h1 h2 seen
  refine ⟨(seen.add 9).add 0, ?_⟩
  show Sre.inSet codeV c (26+2) 5 true seen = _
  rw [in_charset rfl (bitsV ⟨c, h2⟩ h1), in_failure rfl]
  rfl

theorem admit_none {m : Sre.M} (ho : offSet m.code) (ht : ∀ c ∈ m.text.toList, 32 ≤ c ∧ c < 127) (hl : m.lim = m.text.size) : ∀ (fuel s : Nat) (seen : Sre.Seen), ∃ seen', Sre.M.admitted m fuel s seen = .ok (none, seen')
  | 0, _, seen => ⟨seen, rfl⟩
  | fuel + 1, s, seen => by
    unfold Sre.M.admitted
    by_cases h : s ≥ m.lim
    · exact ⟨seen, by rw [if_pos h]⟩
    · rw [if_neg h]
      have hs : s < m.text.size := by omega
      have hm : m.text.getD s 0 ∈ m.text.toList := by
        rw [Array.getD_eq_getD_getElem?, Array.getElem?_eq_getElem hs]
        simp
      obtain ⟨q, e⟩ := ho _ (ht _ hm).1 (ht _ hm).2 seen
      rw [e]
      exact admit_none ho ht hl fuel (s + 1) q

structure Off (m : Sre.M) : Prop where
  a : m.answer = some false
  f : m.frames = []
  o : m.outcome = none

theorem attemptFrom_off {m : Sre.M} (hf : m.hasFirstSet = true) (ho : offSet m.code) (ht : ∀ c ∈ m.text.toList, 32 ≤ c ∧ c < 127) (hl : m.lim = m.text.size) (h1 : m.frames = []) (h2 : m.outcome = none) (s : Nat) (b : Bool) : Off (m.attemptFrom s b) := by
  unfold Sre.M.attemptFrom
  rw [hf]
  simp only [Bool.not_true, Bool.false_eq_true, if_false]
  obtain ⟨q, e⟩ := admit_none ho ht hl (m.lim + 1 - s) s m.seen
  rw [e]
  exact ⟨rfl, h1, h2⟩

theorem forSearch_off {code text : Array Nat} (hf : code.getD 0 0 = 14) (h2 : code.getD 2 0 = 4) (ho : offSet code) (ht : ∀ c ∈ text.toList, 32 ≤ c ∧ c < 127) :
    Off (Sre.forSearch code text 0 0 text.size false) := by
  unfold Sre.forSearch
  simp only []
  split
  · exact ⟨rfl, rfl, rfl⟩
  · refine attemptFrom_off ?_ ho ht rfl rfl rfl _ _
    show ((match Sre.ops[code.getD 0 0]? with | some .INFO => true | _ => false) && code.getD 2 0 == 4) = true
    rw [hf, h2]; rfl

section
variable {M : Model} {A : Around} {E : Value → Shared → Prop} {s : Shared}
theorem drive_off {m : Sre.M} (h : Off m) {Q : Sre.M → Shared → Prop} (hq : ∀ m', m'.outcome = some .failed → Q m' s) : wpAny M A (reDrive (2 ^ 64) m) Q E s := by
  show wpAny M A (reDrive ((2 ^ 64 - 1) + 1) m) Q E s
  unfold reDrive
  have e1 : m.step = { m with outcome := some .failed } := by
    unfold Sre.M.step
    rw [h.o, h.a, h.f]; rfl
  have e : m.runFor reTurnSteps = { m with outcome := some .failed } := by
    show Sre.M.runFor 4 m = _
    unfold Sre.M.runFor
    rw [h.o, e1]
    rfl
  rw [e]
  exact wpAny_pure (hq _ rfl)
theorem toEnd_off {m : Sre.M} (h : Off m) {Q : Option Sre.M → Shared → Prop} (hq : Q none s) : wpAny M A (reRunToEnd m) Q E s := by
  unfold reRunToEnd
  refine wpAny_bind (drive_off h fun m' e => wpAny_bind (wpAny_forIn_list _ (fun _ _ s' => s' = s) _ (fun x rest b s' e' => ?_) (fun b s' e' => ?_) _ _ rfl))
  · subst e'
    split
    · exact wpAny_bind (wpAny_rule (wpAny_pure rfl))
    · exact wpAny_pure rfl
  · subst e'
    rw [e]
    exact wpAny_pure hq
end

section
variable {prog : Program} {w : World} {A : Around} {E : Value → Shared → Prop} {s : Shared}

/-- a pattern object over its code's tuple, in a heap -/
structure PatAt (h : Heap) (a : Addr) (code : Array Nat) : Prop where
  at_ : ∃ b d fs sl d' its n sl', h.get? a = some ⟨.type "re.Pattern", d, .fields fs, sl⟩ ∧ d = none ∧ fs.size = 7 ∧ fs.getD 6 .none = .int 0 0 ∧ fs.getD 5 .none = .ref b ∧ reRawNat (fs.getD 2 .none) = 0 ∧
    h.get? b = some ⟨.type "tuple", d', .seq its n, sl'⟩ ∧ (its.map reRawOf).map (·.toNat) = code

theorem search_plain {a : Addr} {code : Array Nat} {sv : Str} {t : Tok} {Q : Value → Shared → Prop} (hp : PatAt s.heap a code) (hf : code.getD 0 0 = 14) (h2 : code.getD 2 0 = 4) (ho : offSet code) (hs : plainS sv) (h : Q .none s) :
    wpAny (model prog w) A (call (.builtin "re.Pattern.search") [.ref a, .str sv t]) Q E s := by
  obtain ⟨b, d, fs, sl, d', its, n, sl', ha, hd, hsz, h6, h5, hg, hb, hcode⟩ := hp
  subst hd
  refine wpAny_call_entry slot_search ⟨_, ha, rfl⟩ entry_search ?_ (args_search _ _)
  unfold Builtin.«re.Pattern.search»
  refine wpAny_bind ?_
  unfold reTarget
  simp only []
  refine wpAny_bind (m := reNamed _ _ _ _ _ _) (wpAny_pure ?_)
  refine wpAny_bind (m := pure (0 : Int)) (wpAny_pure ?_)
  generalize hl : (2 ^ 63 - 1 : Int) = k
  have hk : 1000 ≤ k.toNat := by omega
  clear hl
  refine wpAny_bind (m := pure k) (wpAny_pure ?_)
  refine wpAny_bind (wpAny_fieldsOf ha rfl ?_)
  refine wpAny_bind (m := reTextOf _) (wpAny_pure ?_)
  rw [h6, h5]
  refine wpAny_bind (wpAny_pure ?_)
  refine wpAny_bind (m := reRawItems _) ?_
  unfold reRawItems
  refine wpAny_bind (wpAny_seqItems hb rfl (wpAny_pure (wpAny_pure ?_)))
  dsimp only [Option.getD_some]
  rw [hcode, hg]
  have e1 : min (Int.toNat 0) sv.cps.size = 0 := Nat.zero_min _
  have e2 : min k.toNat sv.cps.size = sv.cps.size := Nat.min_eq_right (Nat.le_trans hs.1 hk)
  rw [e1, e2]
  unfold reAnswer
  refine wpAny_bind (toEnd_off (forSearch_off hf h2 ho hs.2) ?_)
  exact wpAny_pure ⟨_, rfl, h⟩
theorem meth_search {a : Addr} {code : Array Nat} {pl : Sem Bool} {Q : Value × List Value → Shared → Prop} (hp : PatAt s.heap a code) (h : Q (.builtin "re.Pattern.search", [.ref a]) s) : wpAny (model prog w) A (getMethod (.ref a) (Str.ofString "search") pl) Q E s := by
  obtain ⟨b, d, fs, sl, d', its, n, sl', ha, hd, hsz, h6, h5, hg, hb, hcode⟩ := hp
  exact getMethod_builtin ⟨_, ha, rfl⟩ plainAttrs_pattern slot_search type_search (fun x e => by cases e; exact ⟨_, ha, hd⟩) h
end


/-- a turn's end: the ledger stands again, the invariant at the next place -/
def TurnEnd (h₀ : Heap) (L I : Addr) (oI : Obj) (J : (Str → Option Value) → List (Addr × Obj) → Prop) (s s' : Shared) : Prop :=
  ∃ h' tk m' news', s' = { s with heap := h', toks := tk } ∧ Fr h₀ L h' m' ∧ News h₀ L h' ((I, oI) :: news') ∧ (∀ p ∈ news', p.1 ≠ I) ∧ J m' news'
def TurnPost (h₀ : Heap) (L I : Addr) (oI : Obj) (J : (Str → Option Value) → List (Addr × Obj) → Prop) (s : Shared) (Q : Flow → Shared → Prop) (f : Flow) (s' : Shared) : Prop :=
  match f with
  | .ret v => Q (.ret v) s'
  | .brk => Q .next s'
  | _ => TurnEnd h₀ L I oI J s s'
theorem TurnEnd.intro {h₀ : Heap} {L I : Addr} {oI : Obj} {J : (Str → Option Value) → List (Addr × Obj) → Prop} {s : Shared} {h' : Heap} {tk : Nat} {m' : Str → Option Value} {news' N2 : List (Addr × Obj)} (F : Fr h₀ L h' m') (N : News h₀ L h' N2)
    (hs : ∀ p ∈ (I, oI) :: news', p ∈ N2) (hn : ∀ p ∈ news', p.1 ≠ I) (hj : J m' news') : TurnEnd h₀ L I oI J s { s with heap := h', toks := tk } :=
  ⟨h', tk, m', news', rfl, F, fun p hp => N p (hs p hp), hn, hj⟩

section
variable {prog : Program} {w : World} {A : Around} {E : Value → Shared → Prop} {s : Shared} {env : Env} {h₀ : Heap} {Q : Flow → Shared → Prop}

/-- what the for's source hands on: the list, the frame, the ledger, the invariant at the start -/
structure ItAt (h₀ : Heap) (L l : Addr) (J : (Str → Option Value) → List (Addr × Obj) → Prop) (s : Shared) (xv : Value) (s₁ : Shared) : Prop where
  out : xv = .ref l ∧ ∃ h tk m₁ news₁, s₁ = { s with heap := h, toks := tk } ∧ Fr h₀ L h m₁ ∧ News h₀ L h news₁ ∧ J m₁ news₁
theorem ItAt.intro {h₀ : Heap} {L l : Addr} {J : (Str → Option Value) → List (Addr × Obj) → Prop} {s : Shared} {h : Heap} {tk : Nat} {m₁ : Str → Option Value} {news₁ : List (Addr × Obj)} (F : Fr h₀ L h m₁) (N : News h₀ L h news₁) (j : J m₁ news₁) : ItAt h₀ L l J s (.ref l) { s with heap := h, toks := tk } :=
  ⟨rfl, h, tk, m₁, news₁, rfl, F, N, j⟩

/-- a for over a list of the ledger: an invariant over the turn's number, the frame and the ledger; a turn may leave -/
theorem for_items {target iter : Expr} {body : List Stmt} {pos : Pos} {l : Addr} {its : Array Value} {n : Nat} {L : Addr} {m₀ : Str → Option Value} (_F : Fr h₀ L s.heap m₀) (hL : env.locals = L)
    (J : Nat → (Str → Option Value) → List (Addr × Obj) → Prop)
    (hh : A.handled = none) (keepL : ∀ i m news, J i m news → (l, listOf its n) ∈ news)
    (he : wpAny (model prog w) A (eval iter env) (ItAt h₀ L l (J 0) s) E s)
    (turn : ∀ i v m₁ news₁ I oI h tk, its[i]? = some v → J i m₁ news₁ → (∀ p ∈ news₁, p.1 ≠ I) → Fr h₀ L h m₁ → News h₀ L h ((I, oI) :: news₁) →
      wpAny (model prog w) A (assign target env v) (fun _ s₃ => wpAny (model prog w) A (execs body env) (TurnPost h₀ L I oI (J (i + 1)) s Q) E s₃) E { s with heap := h, toks := tk })
    (fin : ∀ m₁ news₁ h tk, J its.size m₁ news₁ → Fr h₀ L h m₁ → News h₀ L h news₁ → Q .next { s with heap := h, toks := tk })
    (hs : ∀ x, foldedSetIterable iter env x = pure x := by intro _; rfl)
    (hE : PassesOwn (model prog w) A env E := by passes_own) :
    wpAny (model prog w) A (exec (.For target iter body [] pos) env) Q E s := by
  subst hL
  refine wpAny_For (wpAny_mono he (fun xv s₁ h₁ => ?_) fun _ _ e => e) hs
  obtain ⟨⟨rfl, h, tk, m₁, news₁, rfl, F₁, N₁, J₁⟩⟩ := h₁
  have hl := (N₁ _ (keepL _ _ _ J₁)).1
  refine wpAny_pyIter_list ⟨_, hl, rfl, n, rfl⟩ ?_
  have hne : ∀ p ∈ news₁, p.1 ≠ h.objs.size := fun p hp => Nat.ne_of_lt (Heap.lt_size (N₁ p hp).1)
  refine codeAny_forLoop_any
    (fun k s' => ∃ i oI h' tk m' news', s' = { s with heap := h', toks := tk } ∧ (oI.cls = .type "list_iterator" ∧ oI.data = .fields #[.ref l, .int i 0]) ∧ Fr h₀ env.locals h' m' ∧ News h₀ env.locals h' ((h.objs.size, oI) :: news') ∧ (∀ p ∈ news', p.1 ≠ h.objs.size) ∧ J i m' news' ∧ i ≤ its.size ∧ k = its.size + 1 - i) ?_ (its.size + 1)
    ⟨0, _, _, _, _, _, rfl, ⟨rfl, rfl⟩, F₁.push _, N₁.push F₁ _, hne, J₁, Nat.zero_le _, rfl⟩
  rintro k s' ⟨i, oI, h', tk', m', news', rfl, hoI, F', N', hne', J', hi, rfl⟩
  generalize h.objs.size = I at N' hne' ⊢
  have hit := (N' _ (.head _)).1
  have hl' := (N' _ (List.mem_cons_of_mem _ (keepL _ _ _ J'))).1
  have old : ∀ h₁ : Heap, (∀ b o, b ≠ I → h'.get? b = some o → h₁.get? b = some o) → Fr h₀ env.locals h₁ m' ∧ News h₀ env.locals h₁ news' := fun h₁ hk₁ =>
    ⟨⟨F'.ns.at' fun o e => hk₁ _ o (Ne.symm (N' _ (.head _)).2.1) e, fun b o e => hk₁ b o (fun z => by have := (N' _ (.head _)).2.2; rw [z] at e; rw [this] at e; cases e) (F'.keep b o e), F'.above⟩,
      fun p hp => ⟨hk₁ _ _ (hne' p hp) (N' p (List.mem_cons_of_mem _ hp)).1, (N' p (List.mem_cons_of_mem _ hp)).2⟩⟩
  by_cases hlt : i < its.size
  · have hx : its[i]? = some its[i] := by simp [hlt]
    refine wpAny_pyNext_list_item ⟨_, hit, hoI.1, hoI.2⟩ ⟨_, hl', rfl, n, rfl⟩ hx (fun h₁ hit₁ hs₁ => ?_)
    obtain ⟨F₂, N₂⟩ := old h₁ fun b o hb e => hs₁.extBut b o hb e
    refine letGo_listiter hit₁ ?_
    obtain ⟨oI', ho', hc', hd'⟩ := hit₁
    have N₃ : News h₀ env.locals h₁ ((I, oI') :: news') := fun p hp => by
      rcases List.mem_cons.mp hp with rfl | hp
      · exact ⟨ho', (N' _ (.head _)).2⟩
      · exact N₂ p hp
    refine wpAny_mono (wpAny_passesOwn hE (turn i its[i] m' news' I oI' h₁ tk' hx J' hne' F₂ N₃)) (fun _ s₃ h₃ => wpAny_mono (wpAny_passesOwn hE h₃) (fun f s₄ h₄ => ?_) fun _ _ e => e) fun _ _ e => e
    have fin2 : TurnEnd h₀ env.locals I oI' (J (i + 1)) s s₄ → ∃ m, m < its.size + 1 - i ∧ ∃ i oI h' tk m' news', s₄ = { s with heap := h', toks := tk } ∧ (oI.cls = .type "list_iterator" ∧ oI.data = .fields #[.ref l, .int i 0]) ∧ Fr h₀ env.locals h' m' ∧ News h₀ env.locals h' ((I, oI) :: news') ∧ (∀ p ∈ news', p.1 ≠ I) ∧ J i m' news' ∧ i ≤ its.size ∧ m = its.size + 1 - i := by
      rintro ⟨h₅, tk₅, m₅, news₅, rfl, F₅, N₅, hn₅, J₅⟩
      exact ⟨its.size + 1 - (i + 1), by omega, i + 1, oI', h₅, tk₅, m₅, news₅, rfl, ⟨hc', hd'⟩, F₅, N₅, hn₅, J₅, hlt, rfl⟩
    cases f with
    | ret v => exact h₄
    | brk => exact h₄
    | next => exact fin2 h₄
    | cont => exact fin2 h₄
  · have hin : i = its.size := by omega
    subst hin
    refine wpAny_pyNext_list_end hh ⟨_, hit, hoI.1, hoI.2⟩ ⟨_, hl', rfl, n, rfl⟩ (by simp) fun h₁ he₁ => wpAny_execs_nil ?_
    obtain ⟨F₂, N₂⟩ := old h₁ fun b o hb e => he₁ b o hb e
    exact fin _ _ _ _ J' F₂ N₂
end

theorem frKnow {h₀ h : Heap} {L : Addr} {m : Str → Option Value} {x : Str} {v : Value} (F : Fr h₀ L h m) (e : m x = some v) : Fr h₀ L h (fun y => if y = x then some v else m y) := by
  have : (fun y => if y = x then some v else m y) = m := by
    funext y
    by_cases q : y = x
    · rw [if_pos q, q, e]
    · rw [if_neg q]
  rw [this]
  exact F
theorem newsSub {h₀ h : Heap} {L : Addr} {a b : List (Addr × Obj)} (N : News h₀ L h a) (hs : ∀ p ∈ b, p ∈ a) : News h₀ L h b := fun p hp => N p (hs p hp)
theorem newsCons {h₀ h : Heap} {L : Addr} {a : List (Addr × Obj)} {x : Addr} {o : Obj} (N : News h₀ L h a) (hs : (x, o) ∈ a) : News h₀ L h ((x, o) :: a) := fun p hp => by
  rcases List.mem_cons.mp hp with rfl | hp
  · exact N _ hs
  · exact N p hp
theorem frKnowL {h₀ h : Heap} {L : Addr} {m : Str → Option Value} (ks : List (Str × Value)) (F : Fr h₀ L h m) (e : ∀ p ∈ ks, m p.1 = some p.2) : Fr h₀ L h (fun y => match ks.lookup y with | some v => some v | none => m y) := by
  have : (fun y => match ks.lookup y with | some v => some v | none => m y) = m := by
    funext y
    induction ks with
    | nil => rfl
    | cons p r ih =>
      rw [List.lookup_cons]
      by_cases q : (y == p.1) = true
      · rw [q, eq_of_beq q, e p (.head _)]
      · have q' : (y == p.1) = false := by simpa using q
        rw [q']
        exact ih fun z hz => e z (.tail _ hz)
  rw [this]
  exact F
theorem turnRet {h₀ : Heap} {L I : Addr} {oI : Obj} {J : (Str → Option Value) → List (Addr × Obj) → Prop} {s s' : Shared} {Q : Flow → Shared → Prop} {v : Value} (h : Q (.ret v) s') : TurnPost h₀ L I oI J s Q (.ret v) s' := h
theorem turnNext {h₀ : Heap} {L I : Addr} {oI : Obj} {J : (Str → Option Value) → List (Addr × Obj) → Prop} {s s' : Shared} {Q : Flow → Shared → Prop} (h : TurnEnd h₀ L I oI J s s') : TurnPost h₀ L I oI J s Q .next s' := h
theorem kw1 : True := by
  k_with "TurnPost" => (with_reducible (refine turnRet ?_); (try dsimp only))
  exact True.intro


def st (l : List Nat) : Str := ⟨l.toArray⟩
def low (c : Nat) : Nat := if c < 97 then c + 32 else c
def up (c : Nat) : Nat := if c < 97 then c else c - 32
/-- a letter of the law's: a b c A B C -/
def isLet (c : Nat) : Bool := (97 ≤ c && c ≤ 99) || (65 ≤ c && c ≤ 67)
def isLow (c : Nat) : Bool := 97 ≤ c && c ≤ 99
/-- a word: short, of letters -/
structure Wd (l : List Nat) : Prop where
  short : l.length ≤ 100
  lets : ∀ c ∈ l, isLet c = true
theorem st_inj {a b : List Nat} : st a = st b ↔ a = b := by
  constructor
  · intro h
    have := congrArg (fun x => x.cps.toList) h
    simpa [st] using this
  · rintro rfl; rfl
theorem st_app (a b : List Nat) : st a ++ st b = st (a ++ b) := by
  apply PySem.Str.ext'
  rw [PySem.Str.cps_append]
  simp [st]
theorem st_len (a : List Nat) : (st a).length = a.length := by
  show (List.toArray a).size = _
  simp
theorem let_range {c : Nat} (h : isLet c = true) : 65 ≤ c ∧ c ≤ 99 := by
  unfold isLet at h
  simp only [Bool.or_eq_true, Bool.and_eq_true, decide_eq_true_eq] at h
  omega
theorem lowerOf_let : ∀ c : Fin 100, isLet c.val = true → Unicode.lowerOf c.val = [low c.val] := by decide +kernel
theorem titleOf_let : ∀ c : Fin 100, isLet c.val = true → Unicode.titleOf c.val = [up c.val] := by decide +kernel
theorem flatten_ones {α : Type} (l : List α) : (l.map fun c => #[c]).toArray.flatten = l.toArray := by
  induction l with
  | nil => rfl
  | cons c r ih =>
    have : ((c :: r).map fun c => #[c]).toArray = #[#[c]] ++ (r.map fun c => #[c]).toArray := by simp
    rw [this, Array.flatten_append, ih]
    simp
theorem lowerAt_let {l : List Nat} (hl : ∀ c ∈ l, isLet c = true) {i : Nat} {c : Nat} (h : l[i]? = some c) : Unicode.lowerAt l.toArray i = [low c] := by
  have hc := hl c (List.mem_of_getElem? h)
  have hr := let_range hc
  unfold Unicode.lowerAt
  rw [List.getElem?_toArray, h]
  show (if (c == 0x3A3 && Unicode.endsWord l.toArray i) = true then [0x3C2] else Unicode.lowerOf c) = [low c]
  rw [if_neg (by simp; omega)]
  exact lowerOf_let ⟨c, by omega⟩ hc
theorem mapIdx_ones {f : Nat → Nat → List Nat} {g : Nat → Nat → Nat} {l : List Nat} (h : ∀ i c, l[i]? = some c → f i c = [g i c]) : (l.toArray.mapIdx fun i c => (f i c).toArray).flatten = (l.mapIdx g).toArray := by
  have e : (l.toArray.mapIdx fun i c => (f i c).toArray) = ((l.mapIdx g).map fun c => #[c]).toArray := by
    apply Array.ext'
    rw [List.mapIdx_toArray]
    apply List.ext_getElem?
    intro i
    simp only [List.getElem?_mapIdx, List.getElem?_map]
    cases q : l[i]? with
    | none => rfl
    | some c => simp only [Option.map_some]; rw [h i c q]
  rw [e, flatten_ones]
theorem mapIdx_map {l : List Nat} {g : Nat → Nat} : l.mapIdx (fun _ c => g c) = l.map g := by
  apply List.ext_getElem?
  intro i
  rw [List.getElem?_mapIdx, List.getElem?_map]
theorem lower_st {l : List Nat} (hl : ∀ c ∈ l, isLet c = true) : Txt.lower (st l) = st (l.map low) := by
  have := mapIdx_ones (f := fun i _ => Unicode.lowerAt l.toArray i) (g := fun _ c => low c) (l := l) fun i c h => lowerAt_let hl h
  rw [mapIdx_map] at this
  exact congrArg PySem.Str.mk this
def capw : List Nat → List Nat
  | [] => []
  | c :: r => up c :: r.map low
theorem cap_st {l : List Nat} (hl : ∀ c ∈ l, isLet c = true) : Txt.capitalize (st l) = st (capw l) := by
  cases l with
  | nil => rfl
  | cons a r =>
    have e : Txt.capitalize (st (a :: r)) = Txt.capitalized (st (a :: r)) := by
      unfold Txt.capitalize
      rw [st_len]; rfl
    rw [e]
    have := mapIdx_ones (f := fun i c => if i == 0 then Unicode.titleOf c else Unicode.lowerAt (a :: r).toArray i) (g := fun i c => if i == 0 then up c else low c) (l := a :: r) fun i c h => by
      cases i with
      | zero =>
        have hc := hl c (List.mem_of_getElem? h)
        have hr := let_range hc
        exact titleOf_let ⟨c, by omega⟩ hc
      | succ i => exact lowerAt_let hl h
    have e2 : (a :: r).mapIdx (fun i c => if i == 0 then up c else low c) = up a :: r.map low := by
      rw [List.mapIdx_cons]
      simp [mapIdx_map]
    rw [e2] at this
    exact congrArg PySem.Str.mk this
theorem low_let {c : Nat} (h : isLet c = true) : isLet (low c) = true := by
  unfold isLet low at *
  simp only [Bool.or_eq_true, Bool.and_eq_true, decide_eq_true_eq] at *
  split <;> omega
theorem up_let {c : Nat} (h : isLet c = true) : isLet (up c) = true := by
  unfold isLet up at *
  simp only [Bool.or_eq_true, Bool.and_eq_true, decide_eq_true_eq] at *
  split <;> omega
theorem Wd.low {l : List Nat} (h : Wd l) : Wd (l.map low) := ⟨by rw [List.length_map]; exact h.short, fun c hc => by
  obtain ⟨d, hd, rfl⟩ := List.mem_map.mp hc
  exact low_let (h.lets d hd)⟩
theorem Wd.app {a b : List Nat} (ha : Wd a) (hb : Wd b) (h : a.length + b.length ≤ 100) : Wd (a ++ b) := ⟨by rw [List.length_append]; exact h, fun c hc => (List.mem_append.mp hc).elim (ha.lets c) (hb.lets c)⟩
theorem Wd.cap {l : List Nat} (h : Wd l) : Wd (capw l) := by
  cases l with
  | nil => exact h
  | cons c r =>
    refine ⟨by have := h.short; simpa [capw] using this, fun d hd => ?_⟩
    rcases List.mem_cons.mp hd with rfl | hd
    · exact up_let (h.lets c (.head _))
    · obtain ⟨e, he, rfl⟩ := List.mem_map.mp hd
      exact low_let (h.lets e (.tail _ he))
theorem Wd.plain {l : List Nat} (h : Wd l) : plainS (st l) := ⟨by have := h.short; simp [st]; omega, fun c hc => by
  have : c ∈ l := by simpa [st] using hc
  have := let_range (h.lets c this)
  omega⟩
theorem Wd.plainLow {l : List Nat} (h : Wd l) : plainS (Txt.lower (st l)) := by rw [lower_st h.lets]; exact h.low.plain
theorem Wd.len {l : List Nat} (h : Wd l) : (st l).length ≤ 1000 := by rw [st_len]; have := h.short; omega

/-- no address twice: the iterator's own entries against the rest -/
def Apart (own news : List (Addr × Obj)) : Prop := ∀ p ∈ own, ∀ q ∈ news, q.1 ≠ p.1
/-- an iterator I of n items: its own ledger entries (St), what a turn is handed (Item, with entries of its own), what it reads of the rest (S) -/
structure Feed (prog : Program) (w : World) (A : Around) (h₀ : Heap) (L : Addr) (target : Expr) (I : Addr) (n : Nat) (St : Nat → List (Addr × Obj) → Prop) (Item : Nat → Value → List (Addr × Obj) → Prop) (S : List (Addr × Obj) → Prop) : Prop where
  item : ∀ (i : Nat) (own news : List (Addr × Obj)) (m : Str → Option Value) (s : Shared) (Q : Value → Shared → Prop) (E : Value → Shared → Prop), i < n → St i own → S news → Fr h₀ L s.heap m → News h₀ L s.heap (own ++ news) → Apart own news →
    (∀ v own' ex h' tk, St (i + 1) own' → Item i v ex → Apart own' (ex ++ news) → Fr h₀ L h' m → News h₀ L h' (own' ++ (ex ++ news)) → Q v { s with heap := h', toks := tk }) →
    wpAny (model prog w) A (pyNext (.ref I)) (fun r s₁ => match r with | none => False | some v => wpAny (model prog w) A (letOwnedTupleGo target (.ref I) v) (fun _ s₂ => Q v s₂) E s₁) E s
  done : ∀ (own news : List (Addr × Obj)) (m : Str → Option Value) (s : Shared) (Q : Shared → Prop) (E : Value → Shared → Prop), St n own → S news → Fr h₀ L s.heap m → News h₀ L s.heap (own ++ news) → Apart own news →
    (∀ h' tk, Fr h₀ L h' m → News h₀ L h' news → Q { s with heap := h', toks := tk }) →
    wpAny (model prog w) A (pyNext (.ref I)) (fun r s₁ => match r with | none => Q s₁ | some _ => False) E s
  self : ∀ (i : Nat) (own : List (Addr × Obj)) (s : Shared) (Q : Value → Shared → Prop) (E : Value → Shared → Prop), St i own → News h₀ L s.heap own → Q (.ref I) s → wpAny (model prog w) A (pyIter (.ref I)) Q E s

/-- a turn's end over any feed -/
def FeedEnd (h₀ : Heap) (L : Addr) (own : List (Addr × Obj)) (S : List (Addr × Obj) → Prop) (J : (Str → Option Value) → List (Addr × Obj) → Prop) (s s' : Shared) : Prop :=
  ∃ h' tk m' news', s' = { s with heap := h', toks := tk } ∧ Fr h₀ L h' m' ∧ News h₀ L h' (own ++ news') ∧ Apart own news' ∧ S news' ∧ J m' news'
theorem FeedEnd.intro {h₀ : Heap} {L : Addr} {own : List (Addr × Obj)} {S : List (Addr × Obj) → Prop} {J : (Str → Option Value) → List (Addr × Obj) → Prop} {s : Shared} {h' : Heap} {tk : Nat} {m' : Str → Option Value} {news' N2 : List (Addr × Obj)} (F : Fr h₀ L h' m') (N : News h₀ L h' N2)
    (ho : ∀ p ∈ own, p ∈ N2) (hs : ∀ p ∈ news', p ∈ N2) (ap : Apart own news') (hS : S news') (hj : J m' news') : FeedEnd h₀ L own S J s { s with heap := h', toks := tk } :=
  ⟨h', tk, m', news', rfl, F, fun p hp => N p ((List.mem_append.mp hp).elim (ho p) (hs p)), ap, hS, hj⟩

def FeedInv (h₀ : Heap) (L : Addr) (n : Nat) (St : Nat → List (Addr × Obj) → Prop) (S : List (Addr × Obj) → Prop) (J : Nat → (Str → Option Value) → List (Addr × Obj) → Prop) (s : Shared) (k : Nat) (s' : Shared) : Prop :=
  ∃ i own h' tk m' news', s' = { s with heap := h', toks := tk } ∧ St i own ∧ Fr h₀ L h' m' ∧ News h₀ L h' (own ++ news') ∧ Apart own news' ∧ S news' ∧ J i m' news' ∧ i ≤ n ∧ k = n + 1 - i

section
variable {prog : Program} {w : World} {A : Around} {h₀ : Heap} {L : Addr} {target : Expr} {I : Addr} {n : Nat} {St : Nat → List (Addr × Obj) → Prop} {Item : Nat → Value → List (Addr × Obj) → Prop} {S : List (Addr × Obj) → Prop}
/-- one step of any loop over a feed -/
theorem feed_step {J : Nat → (Str → Option Value) → List (Addr × Obj) → Prop} {s s' : Shared} {k : Nat} {E : Value → Shared → Prop} {Body : Value → Shared → Prop} {Qn : Shared → Prop} (Fd : Feed prog w A h₀ L target I n St Item S) (inv : FeedInv h₀ L n St S J s k s')
    (turn : ∀ i v own ex m₁ news₁ h tk, i < n → Item i v ex → J i m₁ news₁ → S news₁ → Apart own (ex ++ news₁) → Fr h₀ L h m₁ → News h₀ L h (own ++ (ex ++ news₁)) → (∀ s₂, FeedEnd h₀ L own S (J (i + 1)) s s₂ → ∃ k', k' < k ∧ FeedInv h₀ L n St S J s k' s₂) → Body v { s with heap := h, toks := tk })
    (fin : ∀ m₁ news₁ h tk, J n m₁ news₁ → Fr h₀ L h m₁ → News h₀ L h news₁ → Qn { s with heap := h, toks := tk }) :
    wpAny (model prog w) A (pyNext (.ref I)) (fun r s₁ => match r with | none => Qn s₁ | some v => wpAny (model prog w) A (letOwnedTupleGo target (.ref I) v) (fun _ s₂ => Body v s₂) E s₁) E s' := by
  obtain ⟨i, own, h', tk, m', news', rfl, st, F, N, ap, hS, hJ, hi, rfl⟩ := inv
  by_cases hlt : i < n
  · refine wpAny_mono (Fd.item i own news' m' _ Body E hlt st hS F N ap fun v own' ex h₁ tk₁ st₁ it ap₁ F₁ N₁ => ?_) (fun r s₁ h₁ => ?_) fun _ _ e => e
    · refine turn i v own' ex m' news' h₁ tk₁ hlt it hJ hS ap₁ F₁ N₁ ?_
      rintro s₂ ⟨h₂, tk₂, m₂, news₂, rfl, F₂, N₂, ap₂, hS₂, hJ₂⟩
      exact ⟨n + 1 - (i + 1), by omega, i + 1, own', h₂, tk₂, m₂, news₂, rfl, st₁, F₂, N₂, ap₂, hS₂, hJ₂, hlt, rfl⟩
    · cases r with
      | none => exact h₁.elim
      | some v => exact h₁
  · have hin : i = n := by omega
    subst hin
    refine wpAny_mono (Fd.done own news' m' _ Qn E st hS F N ap fun h₁ tk₁ F₁ N₁ => fin m' news' h₁ tk₁ hJ F₁ N₁) (fun r s₁ h₁ => ?_) fun _ _ e => e
    cases r with
    | none => exact h₁
    | some v => exact h₁.elim
end

section
variable {prog : Program} {w : World} {A : Around} {E : Value → Shared → Prop} {s : Shared} {env : Env} {h₀ : Heap} {L : Addr} {Q : Flow → Shared → Prop}
def FeedPost (h₀ : Heap) (L : Addr) (own : List (Addr × Obj)) (S : List (Addr × Obj) → Prop) (J : (Str → Option Value) → List (Addr × Obj) → Prop) (s : Shared) (Q : Flow → Shared → Prop) (f : Flow) (s' : Shared) : Prop :=
  match f with
  | .ret v => Q (.ret v) s'
  | .brk => Q .next s'
  | _ => FeedEnd h₀ L own S J s s'
/-- what a for's source hands on: an iterator over a feed, ready to start -/
structure FeedAt (prog : Program) (w : World) (A : Around) (h₀ : Heap) (L : Addr) (target : Expr) (n : Nat) (Item : Nat → Value → List (Addr × Obj) → Prop) (S : List (Addr × Obj) → Prop) (J : (Str → Option Value) → List (Addr × Obj) → Prop) (s : Shared) (it : Value) (s₁ : Shared) : Prop where
  out : ∃ I St own h tk m₁ news₁, it = .ref I ∧ Feed prog w A h₀ L target I n St Item S ∧ s₁ = { s with heap := h, toks := tk } ∧ St 0 own ∧ Fr h₀ L h m₁ ∧ News h₀ L h (own ++ news₁) ∧ Apart own news₁ ∧ S news₁ ∧ J m₁ news₁
/-- a for over any feed -/
theorem for_feed {target iter : Expr} {body : List Stmt} {pos : Pos} {m₀ : Str → Option Value} {n : Nat} {Item : Nat → Value → List (Addr × Obj) → Prop} {S : List (Addr × Obj) → Prop} (_F : Fr h₀ L s.heap m₀) (J : Nat → (Str → Option Value) → List (Addr × Obj) → Prop)
    (he : wpAny (model prog w) A (eval iter env) (fun xv s₁ => wpAny (model prog w) A (pyIter xv) (FeedAt prog w A h₀ L target n Item S (J 0) s) E s₁) E s)
    (turn : ∀ i v own ex m₁ news₁ h tk, i < n → Item i v ex → J i m₁ news₁ → S news₁ → Apart own (ex ++ news₁) → Fr h₀ L h m₁ → News h₀ L h (own ++ (ex ++ news₁)) →
      wpAny (model prog w) A (assign target env v) (fun _ s₃ => wpAny (model prog w) A (execs body env) (FeedPost h₀ L own S (J (i + 1)) s Q) E s₃) E { s with heap := h, toks := tk })
    (fin : ∀ m₁ news₁ h tk, J n m₁ news₁ → Fr h₀ L h m₁ → News h₀ L h news₁ → Q .next { s with heap := h, toks := tk })
    (hs : ∀ x, foldedSetIterable iter env x = pure x := by intro _; rfl)
    (hE : PassesOwn (model prog w) A env E := by passes_own) :
    wpAny (model prog w) A (exec (.For target iter body [] pos) env) Q E s := by
  refine wpAny_For (wpAny_mono he (fun xv s₁ h₁ => wpAny_mono h₁ (fun it s₂ h₂ => ?_) fun _ _ e => e) fun _ _ e => e) hs
  obtain ⟨I, St, own, h, tk, m₁, news₁, rfl, Fd, rfl, st, F, N, ap, hS, hJ⟩ := h₂
  refine codeAny_forLoop_any (FeedInv h₀ L n St S J s) (fun k s' inv => ?_) (n + 1) ⟨0, own, h, tk, m₁, news₁, rfl, st, F, N, ap, hS, hJ, Nat.zero_le _, rfl⟩
  refine wpAny_mono (feed_step (Body := fun v s₂ => wpAny (model prog w) A (assign target env v) (fun _ s₃ => wpAny (model prog w) A (execs body env) (fun f s₃ => match f with
            | .next | .cont => ∃ m, m < k ∧ FeedInv h₀ L n St S J s m s₃
            | .brk => Q .next s₃
            | .ret v => Q (.ret v) s₃) (notedBy (model prog w) A env fun e s' => cameBackBy (model prog w) A env E e s') s₃) (notedBy (model prog w) A env fun e s' => cameBackBy (model prog w) A env E e s') s₂) (Qn := fun s₁ => Q .next s₁) Fd inv
      (fun i v own' ex m₂ news₂ h₂ tk₂ hi it hJ₂ hS₂ ap₂ F₂ N₂ fe => ?_) fin) (fun r s₁ h₁ => ?_) fun _ _ e => e
  · refine wpAny_mono (wpAny_passesOwn hE (turn i v own' ex m₂ news₂ h₂ tk₂ hi it hJ₂ hS₂ ap₂ F₂ N₂)) (fun _ s₃ h₃ => wpAny_mono (wpAny_passesOwn hE h₃) (fun f s₄ h₄ => ?_) fun _ _ e => e) fun _ _ e => e
    cases f with
    | ret v => exact h₄
    | brk => exact h₄
    | next => exact fe _ h₄
    | cont => exact fe _ h₄
  · cases r with
    | none => exact wpAny_execs_nil h₁
    | some v => exact h₁
end

section
variable {prog : Program} {w : World} {A : Around} {h₀ : Heap} {L : Addr} {target : Expr}
def ListSt (I l : Addr) (i : Nat) (own : List (Addr × Obj)) : Prop := ∃ oI : Obj, own = [(I, oI)] ∧ oI.cls = .type "list_iterator" ∧ oI.data = .fields #[.ref l, .int i 0]
theorem feed_list (hh : A.handled = none) (I l : Addr) (its : Array Value) (n0 : Nat) : Feed prog w A h₀ L target I its.size (ListSt I l) (fun i v ex => its[i]? = some v ∧ ex = []) (fun news => (l, W.listOf its n0) ∈ news) where
  item := by
    rintro i own news m s Q E hlt ⟨oI, rfl, hc, hd⟩ hS F N ap hQ
    have hit := (N _ (List.mem_append_left _ (.head _))).1
    have hl' := (N _ (List.mem_append_right _ hS)).1
    have hx : its[i]? = some its[i] := by simp [hlt]
    have hI := (N _ (List.mem_append_left _ (.head _))).2
    refine wpAny_mono (wpAny_pyNext_list_item (Q := fun r s₁ => match r with | none => False | some v => wpAny (model prog w) A (letOwnedTupleGo target (.ref I) v) (fun _ s₂ => Q v s₂) E s₁) ⟨_, hit, hc, hd⟩ ⟨_, hl', rfl, n0, rfl⟩ hx (fun h₁ hit₁ hs₁ => ?_)) (fun _ _ q => q) fun _ _ e => e
    refine letGo_listiter hit₁ ?_
    obtain ⟨oI', ho', hc', hd'⟩ := hit₁
    have off : ∀ p ∈ news, p.1 ≠ I := fun p hp => ap _ (.head _) p hp
    refine hQ _ [(I, oI')] [] h₁ s.toks ⟨oI', rfl, hc', hd'⟩ ⟨hx, rfl⟩ (fun p hp q hq => ?_) ⟨F.ns.at' fun o e => hs₁.extBut _ o (Ne.symm hI.1) e, fun b o e => hs₁.extBut b o (fun z => by rw [z, hI.2] at e; cases e) (F.keep b o e), F.above⟩ fun p hp => ?_
    · rw [List.mem_singleton.mp hp]; exact off q hq
    · rcases List.mem_append.mp hp with hp | hp
      · rw [List.mem_singleton.mp hp]; exact ⟨ho', hI⟩
      · have z := N p (List.mem_append_right _ hp)
        exact ⟨hs₁.extBut _ _ (off p hp) z.1, z.2⟩
  done := by
    rintro own news m s Q E ⟨oI, rfl, hc, hd⟩ hS F N ap hQ
    have hit := (N _ (List.mem_append_left _ (.head _))).1
    have hl' := (N _ (List.mem_append_right _ hS)).1
    have hI := (N _ (List.mem_append_left _ (.head _))).2
    have off : ∀ p ∈ news, p.1 ≠ I := fun p hp => ap _ (.head _) p hp
    refine wpAny_mono (wpAny_pyNext_list_end (Q := fun r s₁ => match r with | none => Q s₁ | some _ => False) hh ⟨_, hit, hc, hd⟩ ⟨_, hl', rfl, n0, rfl⟩ (by simp) fun h₁ he₁ => ?_) (fun _ _ q => q) fun _ _ e => e
    refine hQ h₁ s.toks ⟨F.ns.at' fun o e => he₁ _ o (Ne.symm hI.1) e, fun b o e => he₁ b o (fun z => by rw [z, hI.2] at e; cases e) (F.keep b o e), F.above⟩ fun p hp => ?_
    have z := N p (List.mem_append_right _ hp)
    exact ⟨he₁ _ _ (off p hp) z.1, z.2⟩
  self := by
    rintro i own s Q E ⟨oI, rfl, hc, hd⟩ N hQ
    exact wpAny_pyIter_listiter ⟨_, (N _ (.head _)).1, hc, hd⟩ hQ
theorem listFeedAt {E : Value → Shared → Prop} {s s₀ : Shared} {l : Addr} {its : Array Value} {n0 : Nat} {m : Str → Option Value} {news : List (Addr × Obj)} {J : (Str → Option Value) → List (Addr × Obj) → Prop} (hh : A.handled = none) (hs : ∃ h tk, s = { s₀ with heap := h, toks := tk }) (F : Fr h₀ L s.heap m) (N : News h₀ L s.heap news) (hl : (l, W.listOf its n0) ∈ news) (hJ : J m news) :
    wpAny (model prog w) A (pyIter (.ref l)) (FeedAt prog w A h₀ L target its.size (fun i v ex => its[i]? = some v ∧ ex = []) (fun news => (l, W.listOf its n0) ∈ news) J s₀) E s := by
  obtain ⟨h, tk, rfl⟩ := hs
  refine wpAny_pyIter_list ⟨_, (N _ hl).1, rfl, n0, rfl⟩ ?_
  exact ⟨_, _, [(h.objs.size, _)], _, _, m, news, rfl, feed_list hh _ l its n0, rfl, ⟨_, rfl, rfl, rfl⟩, F.push _, N.push F _, fun p hp q hq => by rw [List.mem_singleton.mp hp]; exact Nat.ne_of_lt (Heap.lt_size (N q hq).1), hl, hJ⟩
end

open PyProof.Rows.LCg (NsObj) in
/-- a comprehension's turn is over: the names' block C, the list D so far, the rest; x: what is appended, if anything -/
def CompTurn (h₀ : Heap) (L C D : Addr) (own : List (Addr × Obj)) (S : List (Addr × Obj) → Prop) (acc : List Value) (nD : Nat) (J : List Value → (Str → Option Value) → List (Addr × Obj) → Prop) (s : Shared) (x : Option Value) (s' : Shared) : Prop :=
  ∃ h' tk m' oC mC news', s' = { s with heap := h', toks := tk } ∧ Fr h₀ L h' m' ∧ News h₀ L h' (own ++ ((C, oC) :: (D, W.listOf acc.toArray nD) :: news')) ∧ NsObj oC mC ∧ Apart own news' ∧ (∀ p ∈ news', p.1 ≠ C ∧ p.1 ≠ D) ∧ S news' ∧ J (acc ++ x.toList) m' news'
theorem CompTurn.intro {h₀ : Heap} {L C D : Addr} {own : List (Addr × Obj)} {S : List (Addr × Obj) → Prop} {acc : List Value} {nD : Nat} {J : List Value → (Str → Option Value) → List (Addr × Obj) → Prop} {s : Shared} {x : Option Value} {h' : Heap} {tk : Nat} {m' : Str → Option Value} {news' N2 : List (Addr × Obj)} {oC : Obj} {mC : Str → Option Value}
    (F : Fr h₀ L h' m') (N : News h₀ L h' N2) (ho : ∀ p ∈ own, p ∈ N2) (hc : (C, oC) ∈ N2) (hC : PyProof.Rows.LCg.NsObj oC mC) (hD : (D, W.listOf acc.toArray nD) ∈ N2) (hs : ∀ p ∈ news', p ∈ N2) (ap : Apart own news') (off : ∀ p ∈ news', p.1 ≠ C ∧ p.1 ≠ D) (hS : S news') (hJ : J (acc ++ x.toList) m' news') :
    CompTurn h₀ L C D own S acc nD J s x { s with heap := h', toks := tk } :=
  ⟨h', tk, m', oC, mC, news', rfl, F, fun p hp => N p (by
    rcases List.mem_append.mp hp with hp | hp
    · exact ho p hp
    · rcases List.mem_cons.mp hp with rfl | hp
      · exact hc
      · rcases List.mem_cons.mp hp with rfl | hp
        · exact hD
        · exact hs p hp), hC, ap, off, hS, hJ⟩
/-- the tests of a clause, one after the other -/
def testsOf (env : Env) (ifs : List Expr) : Sem Bool := forIn ifs true fun c r => if r = true then do let ok ← isTrue c env (eval c env); pure (ForInStep.yield ok) else pure (ForInStep.yield r)

section
variable {prog : Program} {w : World} {A : Around} {E : Value → Shared → Prop} {s : Shared} {env : Env} {h₀ : Heap} {L : Addr} {Q : Value → Shared → Prop}
open PyProof.Rows.LCg (NsObj ns_obj)
/-- the loop of a comprehension of one clause, whatever its target: by a measure -/
theorem compLoop_any {elt target iter : Expr} {ifs : List Expr} {scope : Scope} {pos : Pos} {it acc : Value} {R : Result → Shared → Prop} (I : Nat → Shared → Prop)
    (turn : ∀ k s, I k s → wpAny (model prog w) A (pyNext it) (fun r s₁ => match r with
      | none => R (.ok .next) s₁
      | some v => wpAny (model prog w) A (letOwnedTupleGo target it v) (fun _ s₁' => wpAny (model prog w) A (assign target env v) (fun _ s₂ => wpAny (model prog w) A (testsOf env ifs) (fun ok s₃ =>
          if ok = true then wpAny (model prog w) A (eval elt env) (fun x s₄ => wpAny (model prog w) A (call (.builtin "list.append") [acc, x]) (fun _ s₅ => ∃ m, m < k ∧ I m s₅) (fun _ _ => False) s₄) (fun _ _ => False) s₃
          else ∃ m, m < k ∧ I m s₃) (fun _ _ => False) s₂) (fun _ _ => False) s₁') (fun _ _ => False) s₁) (fun _ _ => False) s)
    (k : Nat) (h : I k s) : codeAny (model prog w) A (.compLoop (.ListComp elt [⟨target, iter, ifs, 0⟩] scope pos) 0 it acc env) R s := by
  refine codeAny_loop rfl I (fun k s hI => ?_) k h
  show wpAny _ A ((compTurn (.ListComp elt [⟨target, iter, ifs, 0⟩] scope pos) 0 it acc env).onRaise (fun x => do noteFrame x env; theTreesLotGoes x)) _ _ s
  refine wpAny_noted ?_
  rw [compTurn_list]
  refine wpAny_bind (wpAny_standAt (wpAny_bind (wpAny_mono (turn k s hI) (fun r s₁ h₁ => ?_) fun _ _ h' => h'.elim)))
  cases r with
  | none => exact wpAny_pure h₁
  | some v =>
    refine wpAny_bind (wpAny_mono h₁ (fun _ s₁' h₁' => wpAny_bind (wpAny_mono h₁' (fun _ s₂ h₂ => wpAny_bind (wpAny_mono h₂ (fun ok s₃ h₃ => ?_) fun _ _ h' => h'.elim)) fun _ _ h' => h'.elim)) fun _ _ h' => h'.elim)
    cases ok with
    | false => exact wpAny_pure ⟨rfl, h₃⟩
    | true => exact wpAny_bind (wpAny_bind (wpAny_mono h₃ (fun x s₄ h₄ => wpAny_bind (wpAny_mono h₄ (fun _ s₅ h₅ => wpAny_pure (wpAny_pure ⟨rfl, h₅⟩)) fun _ _ h' => h'.elim)) fun _ _ h' => h'.elim))
theorem ns_after {h h' : Heap} {C : Addr} {m₀ : Str → Option Value} {news : List (Addr × Obj)} (F : Fr h₀ L h m₀) (N : News h₀ L h news) (hs : Heap.SameBut C h h') (hCL : C ≠ L) (hC0 : h₀.get? C = none) (off : ∀ p ∈ news, p.1 ≠ C) : Fr h₀ L h' m₀ ∧ News h₀ L h' news :=
  ⟨F.change hs hCL hC0, fun p hp => ⟨(hs.2 _ (off p hp)).trans (N p hp).1, (N p hp).2⟩⟩

/-- the loop of a comprehension of one clause, over any feed -/
theorem comp_loop {elt target iter : Expr} {ifs : List Expr} {scope : Scope} {pos : Pos} {cenv : Env} {I C D : Addr} {n : Nat} {St : Nat → List (Addr × Obj) → Prop} {Item : Nat → Value → List (Addr × Obj) → Prop} {S : List (Addr × Obj) → Prop} {R : Result → Shared → Prop}
    (J : Nat → List Value → (Str → Option Value) → List (Addr × Obj) → Prop) (hS : ∀ a b, (∀ p ∈ a, p ∈ b) → S a → S b) (hn : n ≤ sizeLine) (hCD : C ≠ D)
    (Fd : Feed prog w A h₀ L target I n St Item S) {own news : List (Addr × Obj)} {h : Heap} {tk : Nat} {m : Str → Option Value} {oC : Obj} {mC : Str → Option Value} {nD : Nat}
    (st : St 0 own) (F : Fr h₀ L h m) (N : News h₀ L h (own ++ ((C, oC) :: (D, W.listOf #[] nD) :: news))) (hoC : NsObj oC mC) (apC : ∀ p ∈ own, C ≠ p.1 ∧ D ≠ p.1) (ap : Apart own news) (off : ∀ p ∈ news, p.1 ≠ C ∧ p.1 ≠ D) (hSn : S news) (hJ : J 0 [] m news)
    (hJn : ∀ i acc m news, J i acc m news → acc.length ≤ i)
    (turn : ∀ i v own ex acc nD oC mC m₁ news₁ h tk, i < n → Item i v ex → NsObj oC mC → J i acc m₁ news₁ → S news₁ → Apart own (ex ++ ((C, oC) :: (D, W.listOf acc.toArray nD) :: news₁)) → (∀ p ∈ news₁, p.1 ≠ C ∧ p.1 ≠ D) → Fr h₀ L h m₁ → News h₀ L h (own ++ (ex ++ ((C, oC) :: (D, W.listOf acc.toArray nD) :: news₁))) →
      wpAny (model prog w) A (assign target cenv v) (fun _ s₂ => wpAny (model prog w) A (testsOf cenv ifs) (fun ok s₃ =>
        if ok = true then wpAny (model prog w) A (eval elt cenv) (fun x s₄ => CompTurn h₀ L C D own S acc nD (J (i + 1)) { s with heap := h, toks := tk } (some x) s₄) (fun _ _ => False) s₃
        else CompTurn h₀ L C D own S acc nD (J (i + 1)) { s with heap := h, toks := tk } none s₃) (fun _ _ => False) s₂) (fun _ _ => False) { s with heap := h, toks := tk })
    (fin : ∀ acc nD oC mC m₁ news₁ h tk, J n acc m₁ news₁ → NsObj oC mC → (∀ p ∈ news₁, p.1 ≠ C ∧ p.1 ≠ D) → Fr h₀ L h m₁ → News h₀ L h ((C, oC) :: (D, W.listOf acc.toArray nD) :: news₁) → R (.ok .next) { s with heap := h, toks := tk }) :
    codeAny (model prog w) A (.compLoop (.ListComp elt [⟨target, iter, ifs, 0⟩] scope pos) 0 (.ref I) (.ref D) cenv) R { s with heap := h, toks := tk } := by
  let Jx : Nat → (Str → Option Value) → List (Addr × Obj) → Prop := fun i m' rest => ∃ oC mC nD acc news', rest = (C, oC) :: (D, W.listOf acc.toArray nD) :: news' ∧ NsObj oC mC ∧ (∀ p ∈ news', p.1 ≠ C ∧ p.1 ≠ D) ∧ S news' ∧ J i acc m' news'
  have apx : ∀ (oC : Obj) (oD : Obj) (own news' : List (Addr × Obj)), (∀ p ∈ own, C ≠ p.1 ∧ D ≠ p.1) → Apart own news' → Apart own ((C, oC) :: (D, oD) :: news') := fun oC oD own news' a b p hp q hq => by
    rcases List.mem_cons.mp hq with rfl | hq
    · exact (a p hp).1
    · rcases List.mem_cons.mp hq with rfl | hq
      · exact (a p hp).2
      · exact b p hp q hq
  have sx : ∀ (oC : Obj) (oD : Obj) (news' : List (Addr × Obj)), S news' → S ((C, oC) :: (D, oD) :: news') := fun oC oD news' hs => hS _ _ (fun p hp => List.mem_cons_of_mem _ (List.mem_cons_of_mem _ hp)) hs
  refine compLoop_any (FeedInv h₀ L n St S Jx s) (fun k s' inv => ?_) (n + 1) ⟨0, own, h, tk, m, _, rfl, st, F, N, apx _ _ _ _ apC ap, sx _ _ _ hSn, ⟨oC, mC, nD, [], news, rfl, hoC, off, hSn, hJ⟩, Nat.zero_le _, rfl⟩
  refine wpAny_mono (feed_step (E := fun _ _ => False) (Body := fun v s₂ => wpAny (model prog w) A (assign target cenv v) (fun _ s₂ => wpAny (model prog w) A (testsOf cenv ifs) (fun ok s₃ =>
          if ok = true then wpAny (model prog w) A (eval elt cenv) (fun x s₄ => wpAny (model prog w) A (call (.builtin "list.append") [.ref D, x]) (fun _ s₅ => ∃ m, m < k ∧ FeedInv h₀ L n St S Jx s m s₅) (fun _ _ => False) s₄) (fun _ _ => False) s₃
          else ∃ m, m < k ∧ FeedInv h₀ L n St S Jx s m s₃) (fun _ _ => False) s₂) (fun _ _ => False) s₂) (Qn := fun s₁ => R (.ok .next) s₁) Fd inv ?_ ?_) (fun r s₁ h₁ => ?_) fun _ _ e => e
  · rintro i v own' ex m₂ rest h₂ tk₂ hi it ⟨oC', mC', nD', acc, news', rfl, hoC', off', hS', hJ'⟩ _ ap₂ F₂ N₂ fe
    have apC' : ∀ p ∈ own', C ≠ p.1 ∧ D ≠ p.1 := fun p hp => ⟨ap₂ p hp (C, oC') (List.mem_append_right _ (.head _)), ap₂ p hp (D, _) (List.mem_append_right _ (.tail _ (.head _)))⟩
    refine wpAny_mono (turn i v own' ex acc nD' oC' mC' m₂ news' h₂ tk₂ hi it hoC' hJ' hS' ap₂ off' F₂ N₂) (fun _ s₃ h₃ => wpAny_mono h₃ (fun ok s₄ h₄ => ?_) fun _ _ e => e) fun _ _ e => e
    cases ok with
    | false =>
      obtain ⟨h₅, tk₅, m₅, oC₅, mC₅, news₅, rfl, F₅, N₅, hoC₅, ap₅, off₅, hS₅, hJ₅⟩ := h₄
      exact fe _ ⟨h₅, tk₅, m₅, _, rfl, F₅, N₅, apx _ _ _ _ apC' ap₅, sx _ _ _ hS₅, ⟨oC₅, mC₅, nD', acc, news₅, rfl, hoC₅, off₅, hS₅, by simpa using hJ₅⟩⟩
    | true =>
      refine wpAny_mono h₄ (fun x s₅ h₅ => ?_) fun _ _ e => e
      obtain ⟨h₅, tk₅, m₅, oC₅, mC₅, news₅, rfl, F₅, N₅, hoC₅, ap₅, off₅, hS₅, hJ₅⟩ := h₅
      have hD := N₅ (D, W.listOf acc.toArray nD') (List.mem_append_right _ (.tail _ (.head _)))
      have hsz : acc.toArray.size ≤ sizeLine := by
        have := hJn _ _ _ _ hJ'
        rw [List.size_toArray]; omega
      refine append_at (hsz := hsz) hD.1 fun h₆ hs₆ ho₆ => ?_
      have offD : ∀ p ∈ own' ++ ((C, oC₅) :: news₅), p.1 ≠ D := fun p hp => by
        rcases List.mem_append.mp hp with hp | hp
        · exact Ne.symm (apC' p hp).2
        · rcases List.mem_cons.mp hp with rfl | hp
          · exact hCD
          · exact (off₅ p hp).2
      have N₆ := newsSub N₅ (b := own' ++ ((C, oC₅) :: news₅)) fun p hp => by
        rcases List.mem_append.mp hp with hp | hp
        · exact List.mem_append_left _ hp
        · rcases List.mem_cons.mp hp with rfl | hp
          · exact List.mem_append_right _ (.head _)
          · exact List.mem_append_right _ (.tail _ (.tail _ hp))
      obtain ⟨F₇, N₇⟩ := ns_after F₅ N₆ hs₆ hD.2.1 hD.2.2 offD
      have hx : acc.toArray.push x = (acc ++ [x]).toArray := by simp
      rw [hx] at ho₆
      refine fe _ ⟨h₆, _, m₅, (C, oC₅) :: (D, W.listOf (acc ++ [x]).toArray (nD' + 1)) :: news₅, rfl, F₇, fun p hp => ?_, apx _ _ _ _ apC' ap₅, sx _ _ _ hS₅, ⟨oC₅, mC₅, nD' + 1, acc ++ [x], news₅, rfl, hoC₅, off₅, hS₅, by simpa using hJ₅⟩⟩
      rcases List.mem_append.mp hp with hp | hp
      · exact N₇ p (List.mem_append_left _ hp)
      · rcases List.mem_cons.mp hp with rfl | hp
        · exact N₇ _ (List.mem_append_right _ (.head _))
        · rcases List.mem_cons.mp hp with rfl | hp
          · exact ⟨ho₆, hD.2⟩
          · exact N₇ p (List.mem_append_right _ (.tail _ hp))
  · rintro m₁ rest h₁ tk₁ ⟨oC', mC', nD', acc, news', rfl, hoC', off', hS', hJ'⟩ F₁ N₁
    exact fin acc nD' oC' mC' m₁ news' h₁ tk₁ hJ' hoC' off' F₁ N₁
  · cases r with
    | none => exact h₁
    | some v => exact h₁
end

section
variable {prog : Program} {w : World} {A : Around} {E : Value → Shared → Prop} {s : Shared} {env : Env} {h₀ : Heap} {L : Addr} {Q : Value → Shared → Prop}
open PyProof.Rows.LCg (NsObj ns_obj)
/-- the turns of a comprehension, whatever its own blocks' addresses -/
def CompTurns (prog : Program) (w : World) (A : Around) (h₀ : Heap) (L : Addr) (env : Env) (scope : Scope) (cl : List (Str × Addr)) (target elt : Expr) (ifs : List Expr) (n : Nat) (Item : Nat → Value → List (Addr × Obj) → Prop) (S : List (Addr × Obj) → Prop) (J : Nat → List Value → (Str → Option Value) → List (Addr × Obj) → Prop) (s : Shared) : Prop :=
  ∀ C D i v own ex acc nD oC mC m₁ news₁ h tk, i < n → Item i v ex → NsObj oC mC → J i acc m₁ news₁ → S news₁ → Apart own (ex ++ ((C, oC) :: (D, W.listOf acc.toArray nD) :: news₁)) → (∀ p ∈ news₁, p.1 ≠ C ∧ p.1 ≠ D) → C ≠ D → Fr h₀ L h m₁ → News h₀ L h (own ++ (ex ++ ((C, oC) :: (D, W.listOf acc.toArray nD) :: news₁))) →
      wpAny (model prog w) A (assign target (compEnvC scope cl C env) v) (fun _ s₂ => wpAny (model prog w) A (testsOf (compEnvC scope cl C env) ifs) (fun ok s₃ =>
        if ok = true then wpAny (model prog w) A (eval elt (compEnvC scope cl C env)) (fun x s₄ => CompTurn h₀ L C D own S acc nD (J (i + 1)) { s with heap := h, toks := tk } (some x) s₄) (fun _ _ => False) s₃
        else CompTurn h₀ L C D own S acc nD (J (i + 1)) { s with heap := h, toks := tk } none s₃) (fun _ _ => False) s₂) (fun _ _ => False) { s with heap := h, toks := tk }

/-- a list comprehension of one clause over any feed, its value at hand -/
theorem comp_feed {elt target iter : Expr} {ifs : List Expr} {scope : Scope} {pos : Pos} {cl : List (Str × Addr)} {m₀ : Str → Option Value} {n : Nat} {Item : Nat → Value → List (Addr × Obj) → Prop} {S : List (Addr × Obj) → Prop} (_F : Fr h₀ L s.heap m₀)
    (J : Nat → List Value → (Str → Option Value) → List (Addr × Obj) → Prop) (hS : ∀ a b, (∀ p ∈ a, p ∈ b) → S a → S b) (hn : n ≤ sizeLine) (hJn : ∀ i acc m news, J i acc m news → acc.length ≤ i)
    (hclos : closureFor scope env = pure cl) (hcell : ∀ y ∈ scope.names, y.2 ≠ .cell) (hkind : scope.kind = .function) (hnames : ∀ y ∈ scope.names, y.2 = .local → scope.names.lookup y.1 = some .local)
    (he : wpAny (model prog w) A (eval iter env) (fun xv s₁ => wpAny (model prog w) A (pyIter xv) (FeedAt prog w A h₀ L target n Item S (J 0 []) s) E s₁) E s)
    (turn : CompTurns prog w A h₀ L env scope cl target elt ifs n Item S J s)
    (fin : ∀ D acc nD m₁ news₁ h tk, J n acc m₁ news₁ → (∀ p ∈ news₁, p.1 ≠ D) → Fr h₀ L h m₁ → News h₀ L h ((D, W.listOf acc.toArray nD) :: news₁) → Q (.ref D) { s with heap := h, toks := tk })
    (hs : ∀ x, foldedSetIterable iter env x = pure x := by intro _; rfl) :
    wpAny (model prog w) A (eval (.ListComp elt [⟨target, iter, ifs, 0⟩] scope pos) env) Q E s := by
  rw [eval_ListComp]
  refine wpAny_comprehension_free (use := none) rfl hs hclos hkind hnames (wpAny_mono he (fun xv s₁ h₁ => wpAny_mono h₁ (fun it s₂ h₂ => ?_) fun _ _ e => e) fun _ _ e => e)
  obtain ⟨⟨I, St, own, h, tk, m, news, rfl, Fd, rfl, st, F, N, ap, hSn, hJ⟩⟩ := h₂
  refine wpAny_newObj_type (wpAny_newFunctionEnv hcell (by intro y hy; simp at hy) (fun h₁ hns₁ hsb₁ => ?_) hkind)
  dsimp only at hns₁ hsb₁ ⊢
  have F1 := F.push ({ cls := .type "list", dict := none, data := .seq ([] : List Value).toArray } : Obj)
  have N1 := N.push F ({ cls := .type "list", dict := none, data := .seq ([] : List Value).toArray } : Obj)
  have below : ∀ p ∈ own ++ news, p.1 < h.objs.size := fun p hp => Heap.lt_size (N p hp).1
  have hLlt : L < h.objs.size := F.ns.lt
  have hC : (h.push ({ cls := .type "list", dict := none, data := .seq ([] : List Value).toArray } : Obj)).objs.size = h.objs.size + 1 := Heap.size_push ..
  generalize hH2 : h.push ({ cls := .type "list", dict := none, data := .seq ([] : List Value).toArray } : Obj) = H2 at hns₁ hsb₁ F1 N1 hC ⊢
  generalize hCe : H2.objs.size = C at hns₁ hsb₁ hC ⊢
  obtain ⟨oC, heC, hoC⟩ := ns_obj hns₁
  have hC0 : h₀.get? C = none := by
    cases e : h₀.get? C with
    | none => rfl
    | some o' => exact absurd (Heap.lt_size (F1.keep _ _ e)) (by rw [hCe]; exact Nat.lt_irrefl _)
  have hCL : C ≠ L := by rw [hC]; exact Nat.ne_of_gt (Nat.lt_succ_of_lt hLlt)
  have hCD : C ≠ h.objs.size := by rw [hC]; exact Nat.succ_ne_self _
  have offC : ∀ p ∈ (h.objs.size, ({ cls := .type "list", dict := none, data := .seq ([] : List Value).toArray } : Obj)) :: (own ++ news), p.1 ≠ C := fun p hp => by
    rcases List.mem_cons.mp hp with rfl | hp
    · exact Ne.symm hCD
    · rw [hC]; exact Nat.ne_of_lt (Nat.lt_succ_of_lt (below p hp))
  have F2 : Fr h₀ L h₁ m := ⟨F1.ns.at' fun o e => hsb₁.extBut _ o (Ne.symm hCL) (Heap.get?_push_of_some _ e), fun b o e => hsb₁.extBut b o (fun z => by rw [z, hC0] at e; cases e) (Heap.get?_push_of_some _ (F1.keep b o e)), F1.above⟩
  have N2 : News h₀ L h₁ (own ++ ((C, oC) :: (h.objs.size, W.listOf #[] 0) :: news)) := fun p hp => by
    have old : ∀ q ∈ (h.objs.size, ({ cls := .type "list", dict := none, data := .seq ([] : List Value).toArray } : Obj)) :: (own ++ news), h₁.get? q.1 = some q.2 ∧ q.1 ≠ L ∧ h₀.get? q.1 = none := fun q hq => ⟨hsb₁.extBut _ _ (offC q hq) (Heap.get?_push_of_some _ (N1 q hq).1), (N1 q hq).2⟩
    rcases List.mem_append.mp hp with hp | hp
    · exact old p (.tail _ (List.mem_append_left _ hp))
    · rcases List.mem_cons.mp hp with rfl | hp
      · exact ⟨heC, hCL, hC0⟩
      · rcases List.mem_cons.mp hp with rfl | hp
        · exact old _ (.head _)
        · exact old p (.tail _ (List.mem_append_right _ hp))
  have apC : ∀ p ∈ own, C ≠ p.1 ∧ h.objs.size ≠ p.1 := fun p hp => ⟨Ne.symm (offC p (.tail _ (List.mem_append_left _ hp))), Nat.ne_of_gt (below p (List.mem_append_left _ hp))⟩
  have off : ∀ p ∈ news, p.1 ≠ C ∧ p.1 ≠ h.objs.size := fun p hp => ⟨offC p (.tail _ (List.mem_append_right _ hp)), Nat.ne_of_lt (below p (List.mem_append_right _ hp))⟩
  have loop : ∀ s₃ : Shared, s₃ = { s with heap := h₁, toks := tk + ([] : List (Str × Value)).length } →
      codeAny (model prog w) A (.compLoop (.ListComp elt [⟨target, iter, ifs, 0⟩] scope pos) 0 (.ref I) (.ref h.objs.size) (compEnvC scope cl C env)) (compPost (model prog w) A E none Q (.ref h.objs.size) C) s₃ := by
    rintro s₃ rfl
    refine comp_loop J hS hn hCD Fd st F2 N2 hoC apC ap off hSn hJ hJn (fun i v own₁ ex acc nD oC₁ mC₁ m₁ news₁ h₂ tk₂ a b c d e f g k l => turn C h.objs.size i v own₁ ex acc nD oC₁ mC₁ m₁ news₁ h₂ tk₂ a b c d e f g hCD k l) ?_
    intro acc nD oC₁ mC₁ m₁ news₁ h₂ tk₂ hJ₁ hoC₁ off₁ F₁ N₁
    refine ⟨mC₁, hoC₁.ns (N₁ _ (.head _)).1, fun h₃ hs₃ => ?_⟩
    obtain ⟨F₃, N₃⟩ := ns_after F₁ (newsSub N₁ (b := (h.objs.size, W.listOf acc.toArray nD) :: news₁) fun p hp => .tail _ hp) hs₃ hCL hC0 fun p hp => by
      rcases List.mem_cons.mp hp with rfl | hp
      · exact Ne.symm hCD
      · exact (off₁ p hp).1
    exact fin h.objs.size acc nD m₁ news₁ h₃ tk₂ hJ₁ (fun p hp => (off₁ p hp).2) F₃ N₃
  exact codeAny_compStart_list (loop _ rfl) (Fd.self 0 own _ _ _ st (newsSub N2 fun p hp => List.mem_append_left _ hp) (loop _ rfl))
end

/-- the walk halts here -/
structure Halt (P : Prop) : Prop where
  out : P
theorem halt {P : Prop} (h : Halt P) : P := h.out
section
variable {M : Model} {A : Around} {E : Value → Shared → Prop} {s : Shared} {h₀ : Heap} {L C : Addr} {m mC : Str → Option Value} {rest : List (Addr × Obj)} {scope : Scope} {cl : List (Str × Addr)} {env : Env} {x : Str} {v : Value} {oC : Obj}
open PyProof.Rows.LCg (NsObj ns_obj)
theorem storeC_head {Q : Unit → Shared → Prop} (F : Fr h₀ L s.heap m) (N : News h₀ L s.heap ((C, oC) :: rest)) (hC : NsObj oC mC) (off : ∀ p ∈ rest, p.1 ≠ C)
    (h : ∀ h' oC', Fr h₀ L h' m → News h₀ L h' ((C, oC') :: rest) → NsObj oC' (fun y => if y = x then some v else mC y) → Q () { s with heap := h', toks := s.toks + 1 })
    (hl : (compEnvC scope cl C env).kindOf x = some .local := by rfl) (hp : ((compEnvC scope cl C env).scope.kind == .class || ((compEnvC scope cl C env).scope.kind == .module && (compEnvC scope cl C env).locals != (compEnvC scope cl C env).globals)) = false := by rfl) :
    wpAny M A (storeName (compEnvC scope cl C env) x v) Q E s := by
  have hN := N _ (.head _)
  refine wpAny_storeName_local hl (hC.ns hN.1) (fun h' hn hs => ?_) hp
  obtain ⟨oC', he, ho⟩ := ns_obj hn
  obtain ⟨F', N'⟩ := ns_after F (newsSub N (b := rest) fun p hp => .tail _ hp) hs hN.2.1 hN.2.2 off
  exact h h' oC' F' (fun p hp => by
    rcases List.mem_cons.mp hp with rfl | hp
    · exact ⟨he, hN.2⟩
    · exact N' p hp) ho
theorem nameC_own {Q : Value → Shared → Prop} {news : List (Addr × Obj)} {pos : Pos} (N : News h₀ L s.heap news) (hm : (C, oC) ∈ news) (hC : NsObj oC mC) (hx : mC x = some v) (h : Q v s)
    (hk : (compEnvC scope cl C env).scope.kind = .function := by rfl) (hl : (compEnvC scope cl C env).kindOf x = some .local := by rfl) (hd : (x == ("__debug__" : Str)) = false := by decide) :
    wpAny M A (eval (.Name x pos) (compEnvC scope cl C env)) Q E s := wpAny_Name (wpAny_loadName_local hk hl (hC.ns (N _ hm).1) hx h) hd
theorem nameC_cell {Q : Value → Shared → Prop} {news : List (Addr × Obj)} {pos : Pos} {c : Addr} {o : Obj} (N : News h₀ L s.heap news) (hc : cl.lookup x = some c) (hm : (c, o) ∈ news) (hd : o.data = .cell (some v)) (h : Q v s)
    (hk : (compEnvC scope cl C env).scope.kind = .function := by rfl) (hx : (compEnvC scope cl C env).kindOf x = some .cell := by rfl) (hb : (x == ("__debug__" : Str)) = false := by decide) :
    wpAny M A (eval (.Name x pos) (compEnvC scope cl C env)) Q E s := wpAny_Name (wpAny_loadName_cell hk hx hc ⟨o, N.get hm, hd⟩ h) hb
theorem tests_none {prog : Program} {w : World} {Q : Bool → Shared → Prop} (h : Q true s) : wpAny (model prog w) A (testsOf env []) Q E s := wpAny_tests_nil h
theorem tests_one {prog : Program} {w : World} {c : Expr} {Q : Bool → Shared → Prop} (h : wpAny (model prog w) A (isTrue c env (eval c env)) Q E s) : wpAny (model prog w) A (testsOf env [c]) Q E s := wpAny_tests_one h
end
theorem kw2 : True := by
  k_with "eval ListComp" => (k_here; with_reducible refine halt ?_)
  exact True.intro
theorem kw3 : True := by
  k_with "storeName" => (k_here; (with_reducible show wpAny _ _ (storeName (compEnvC _ _ _ _) _ _) _ _ _); k_dflt (refine storeC_head (by k_asm) (by k_asm) (by assumption) (by assumption) ?_; k_whole); intro h' o' F' N' C'; (try k_sweep))
  exact True.intro
theorem kw4 : True := by
  k_with "eval Name" => (k_here; (with_reducible show wpAny _ _ (eval (Expr.Name _ _) (compEnvC _ _ _ _)) _ _ _); k_dflt (first | (refine nameC_own (by k_asm) (by k_mem) (by assumption) (by rfl) ?_ (by rfl) (by rfl); k_whole) | (refine nameC_cell (by k_asm) (by rfl) (by k_mem) (by k_asm) ?_ (by rfl) (by rfl); k_whole)))
  exact True.intro
theorem kw5 : True := by
  k_with "testsOf" => first | with_reducible refine tests_none ?_ | with_reducible refine tests_one ?_
  exact True.intro
theorem kw6 : True := by
  k_with "pyIter ref" => (k_here; (with_reducible show wpAny _ _ (pyIter (Value.ref _)) (FeedAt _ _ _ _ _ _ _ _ _ _ _) _ _); with_reducible refine halt ?_)
  exact True.intro


abbrev Pg : Program := RowW.prog (OpenRow.toRowW (OpenLaw.row PySem.Challenge.rw_to0080_01))

/-- a call in any frame, with the caller's ledger: what comes back and the ledger behind -/
def Con (w : World) (p : Program) (loose : List Str) (mean : ExcName → Option Value) (mg mb : Str → Option Value) (dn un0 : Nat) (f : Addr) (args : List Value) (kw : List (Str × Value)) (nIn : List (Addr × Obj)) (Post : Value → List (Addr × Obj) → Prop) : Prop :=
  ∀ (dp un : Nat) (gd : Option (List Code)) (cn : Str) (cs : Scope) (a : Addr) (ccd : Value) (cl : List (Str × Addr)) (outer : List Env) (A₀ : Around) (base h₀ : Heap) (L : Addr) (m : Str → Option Value) (s : Shared) (Q E : Value → Shared → Prop),
    Below A₀ base outer h₀ → Fr h₀ L s.heap m → (Mine.hk.heap_1 (World.params w)).In h₀ → News h₀ L s.heap nIn → Top p loose mean mg mb h₀ → cs.kind = .function → dp + dn < recursionLimit → un + un0 < cLine →
    (∀ v nOut h' tk', Post v nOut → Fr h₀ L h' m → News h₀ L h' nOut → Q v { s with heap := h', toks := tk' }) →
    wpAny (model Pg w) (ktrTop dp un gd cn cs L a ccd cl outer) (call (.ref f) args kw) Q E s
theorem Con.use {w : World} {p : Program} {loose : List Str} {mean : ExcName → Option Value} {mg mb : Str → Option Value} {dn un0 : Nat} {f : Addr} {args : List Value} {kw : List (Str × Value)} {nIn : List (Addr × Obj)} {Post : Value → List (Addr × Obj) → Prop}
    {dp un : Nat} {gd : Option (List Code)} {cn : Str} {cs : Scope} {a : Addr} {ccd : Value} {cl : List (Str × Addr)} {outer : List Env} {A₀ : Around} {base h₀ : Heap} {L : Addr} {m : Str → Option Value} {s : Shared} {Q E : Value → Shared → Prop}
    (C : Con w p loose mean mg mb dn un0 f args kw nIn Post) (B : Below A₀ base outer h₀) (F : Fr h₀ L s.heap m) (X : (Mine.hk.heap_1 (World.params w)).In h₀) (N : News h₀ L s.heap nIn) (T : Top p loose mean mg mb h₀) (hk : cs.kind = .function) (hd : dp + dn < recursionLimit) (hu : un + un0 < cLine)
    (ret : ∀ v nOut h' tk', Post v nOut → Fr h₀ L h' m → News h₀ L h' nOut → Q v { s with heap := h', toks := tk' }) :
    wpAny (model Pg w) (ktrTop dp un gd cn cs L a ccd cl outer) (call (.ref f) args kw) Q E s := C _ _ _ _ _ _ _ _ _ _ _ _ _ _ _ _ _ B F X N T hk hd hu ret

section
variable {prog : Program} {w : World} {A A₀ : Around} {s : Shared} {K : Frag} {L : Addr} {h₀ base : Heap} {m mg mb : Str → Option Value} {news : List (Addr × Obj)} {p : Program} {loose : List Str} {mean : ExcName → Option Value}
/-- a def of the text's own is entered: its names as they are written, whatever tokens were drawn -/
theorem code_defM {env : Env} {outer : List Env} {R : Result → Shared → Prop} {name qual : Str} {params : Arguments} {body : List Stmt} {scope : Scope} {dV kV doc pm cdv ct oc : Value} {an od : Option Addr} {osl : Array (Option Value)} {f : Addr} {args : Args} {binds : List (Str × Value)} (rb : List (Str × Value))
    (B : Below A₀ base outer h₀) (F : Fr h₀ L s.heap m) (X₀ : K.In h₀) (N : News h₀ L s.heap news) (T : Top p loose mean mg mb h₀) (hA : A.frames = some (env :: outer)) (hf : env.frame = some L) (hke : env.scope.kind = .function)
    (ho : K.lookup f = some ⟨oc, od, .func (fnOf name qual params body scope dV kV doc pm an cdv ct), osl⟩) (hcd : codeIn K cdv qual = true) (hroom : A.depth < recursionLimit)
    (hbind : BindsTo s (fnOf name qual params body scope dV kV doc pm an cdv ct) args binds) (hrb : binds = rb.reverse) (hloc : ∀ y ∈ rb.reverse, scope.names.lookup y.1 = some .local)
    (h : ∀ g L' h₁ tk, Fr h₀ L g m → Fr g L' h₁ (fun y => rb.lookup y) → News g L' h₁ news → Below A base (env :: outer) g → K.In g → Top p loose mean mg mb g →
      wpAny (model prog w) (A.deeper (envOf qual scope L' f cdv)) (execs body (envOf qual scope L' f cdv))
        (fun fl s' => LeaveK h₀ L m g R (match fl with | .ret v => v | _ => .none) s')
        (fun e s' => wpAny (model prog w) (A.deeper (envOf qual scope L' f cdv)) (leaving (envOf qual scope L' f cdv) e) (fun _ s'' => R (.error e) s'') (fun e' s'' => R (.error e') s'') s')
        { s with heap := h₁, toks := tk })
    (hco : scope.isCoroutine = false) (hgen : scope.isGenerator = false) (hk : scope.kind = .function)
    (hcell : ∀ x ∈ scope.names, x.2 ≠ .cell) : codeAny (model prog w) A (.call (.ref f) args) R s := by
  subst hrb
  refine code_def B F X₀ N T hA hf hke ho hcd hroom hbind hloc (fun g L' h₁ FG F' N' B' X' T' => ?_) hco hgen hk hcell
  rw [List.reverse_reverse] at F'
  exact h g L' h₁ _ FG F' N' B' X' T'
end
local macro_rules | `(tactic| walk_at "mine sides") => `(tactic| (k_dflt ((case kA => exact rfl); (case kF => exact rfl); (case kK => assumption); (case k1 => k_asm); (case k2 => k_asm); (case k3 => k_asm); (case k4 => k_asm); (case k5 => k_asm); (case k6 => k_is); (case k7 => k_is); (case k8 => ktr_room); (case k9 => first | exact binds_K (by k_in) rfl (by k_is) rfl rfl rfl | exact BindsTo.of_eq rfl); (case kR => exact rfl); (case c5 => decide); (case kB => exact locs rfl); (case c2 => exact rfl); (case c3 => exact rfl); (case c4 => exact rfl)); (try clear B F N X T); intro g' L' h' tk' FG' F' N' B' X' T'; (try dsimp only); (try k_lift B'); (try k_fold)))
theorem kw7 : True := by
  k_with "mine mem" => first | ktr_member | exact List.mem_cons_self | (refine' List.mem_cons_of_mem _ ?_; k_extra "mine mem")
  exact True.intro
local macro_rules | `(tactic| k_mem) => `(tactic| k_extra "mine mem")
theorem roomLt1 {u a c X : Nat} (h : u + a < X) (hc : c ≤ a) : u + c < X := Nat.lt_of_le_of_lt (Nat.add_le_add_left hc u) h
theorem roomLt2 {u a b c X : Nat} (h : u + a < X) (hc : b + c ≤ a) : u + b + c < X := by rw [Nat.add_assoc]; exact roomLt1 h hc
theorem roomLt3 {u a b c d X : Nat} (h : u + a < X) (hc : b + (c + d) ≤ a) : u + b + c + d < X := by rw [Nat.add_assoc]; exact roomLt2 h hc
local macro_rules | `(tactic| k_in) => `(tactic| first | k_in_fast | exact Frag.In.keeps (by k_asm) (Fr.keep (by k_asm)))
local macro_rules | `(tactic| ktr_units) => `(tactic| first | exact roomLt1 (by assumption) (by decide) | exact roomLt2 (by assumption) (by decide) | exact roomLt3 (by assumption) (by decide))
local macro_rules | `(tactic| ktr_room) => `(tactic| first | exact roomLt1 (by assumption) (by decide) | exact roomLt2 (by assumption) (by decide) | exact roomLt3 (by assumption) (by decide))

theorem patOf {K : Frag} {h : Heap} {a b : Addr} {code : Array Nat} {d fs sl d' its n sl'} (X : K.In h) (h1 : K.lookup a = some ⟨.type "re.Pattern", d, .fields fs, sl⟩) (h2 : K.lookup b = some ⟨.type "tuple", d', .seq its n, sl'⟩)
    (e : d = none ∧ fs.size = 7 ∧ fs.getD 6 .none = .int 0 0 ∧ fs.getD 5 .none = .ref b ∧ Builtin.Re.reRawNat (fs.getD 2 .none) = 0 ∧ (its.map Builtin.Re.reRawOf).map (·.toNat) = code) : PatAt h a code :=
  ⟨b, d, fs, sl, d', its, n, sl', X _ _ h1, e.1, e.2.1, e.2.2.1, e.2.2.2.1, e.2.2.2.2.1, X _ _ h2, e.2.2.2.2.2⟩
theorem patN {P : Params} {h : Heap} (X : (Mine.hk.heap_1 P).In h) : PatAt h 133 codeN := by
  refine' patOf (b := 132) X ?b1 ?b2 ?b3
  (case b1 => k_is); (case b2 => k_is); exact ⟨rfl, rfl, rfl, rfl, rfl, by decide +kernel⟩
theorem patV {P : Params} {h : Heap} (X : (Mine.hk.heap_1 P).In h) : PatAt h 138 codeV := by
  refine' patOf (b := 137) X ?b1 ?b2 ?b3
  (case b1 => k_is); (case b2 => k_is); exact ⟨rfl, rfl, rfl, rfl, rfl, by decide +kernel⟩
theorem kw8 : True := by
  k_with "getMethod ref" => (k_here; (with_reducible show wpAny _ _ (getMethod (Value.ref _) (Str.ofString "search") _) _ _ _); first | refine meth_search (patN (by k_in)) ?_ | refine meth_search (patV (by k_in)) ?_)
  exact True.intro
theorem kw9 : True := by
  k_with "call builtin:re.Pattern.search" => (k_here; first | refine search_plain (patN (by k_in)) rfl rfl offN (by assumption) ?_ | refine search_plain (patV (by k_in)) rfl rfl offV (by assumption) ?_)
  exact True.intro


theorem conv {w p loose mean mg mb} {nIn : List (Addr × Obj)} {x : Value} {sv : Str} {t : Tok} {b : Bool} (hs : plainS sv) :
    Con w p loose mean mg mb 1 8 168 [x, .str sv t] [(Str.ofString "name", .bool b)] nIn (fun v nOut => v = .str sv t ∧ nOut = nIn) := by
  unfold Con
  intro dp un gd cn cs a ccd cl outer A₀ base h₀ L m s Q E B F X N T hk hd hu hret
  refine wpAny_call ?_
  refine' code_defM [(Str.ofString "name", .bool b), (Str.ofString "value", .str sv t), (Str.ofString "self", x)] ?k1 ?k2 ?k3 ?k4 ?k5 ?kA ?kF ?kK ?k6 ?k7 ?k8 ?k9 ?kR ?kB ?_ ?c2 ?c3 ?c4 ?c5
  walk_at "mine sides"
  cases b
  all_goals k_steps
  all_goals exact hret _ _ _ _ ⟨rfl, rfl⟩ (by k_asm) (by k_asm)
local macro_rules | `(tactic| walk_at "mine con") => `(tactic| exact conv (by assumption))
theorem kw10 : True := by
  k_with "mine post" => (with_reducible (rename (fun _ _ => _ = _ ∧ _ = _) _ _ => hpo); obtain ⟨e1, e2⟩ := hpo; with_reducible (rename News _ _ _ _ => nNew); rw [e2] at nNew; clear e2; subst e1)
  exact True.intro
local macro_rules | `(tactic| walk_at "call ref") => `(tactic| (k_here; (with_reducible show wpAny _ _ (call (Value.ref 168) _ _) _ _ _); k_dflt (refine' Con.use ?C ?B ?F ?X ?N ?T ?hk ?hd ?hu ?_; (case B => k_asm); (case F => k_asm); (case X => k_asm); (case N => k_asm); (case T => k_asm); (case hk => first | exact rfl | assumption); (case C => walk_at "mine con"); (case hd => ktr_room); (case hu => ktr_units); k_whole); intro v' nOut' h' tk' hpost F' N'; k_extra "mine post"; (try dsimp only); (try k_sweep)))

structure Row where
  a : Addr
  k : List Nat
  tk : Tok
  v : Str
  tv : Tok
abbrev Row.obj (r : Row) : Obj := { cls := .type "tuple", data := .seq #[.str (st r.k) r.tk, .str r.v r.tv] }
abbrev Row.ref (r : Row) : Value := .ref r.a
structure Row.Ok (r : Row) : Prop where
  wd : Wd r.k
def findR (rows : List Row) (nm : List Nat) : Option Row := rows.find? fun r => r.k.map low == nm
def getV (rows : List Row) (nm : List Nat) (dv : Value) : Value := match findR rows (nm.map low) with
  | some r => .str r.v r.tv
  | none => dv
/-- a Headers in the ledger: the object x, its dict d, the list l of the rows -/
structure Tab (w : World) (x d l : Addr) (n : Nat) (rows : List Row) (news : List (Addr × Obj)) : Prop where
  inst : (x, instObj 269 d) ∈ news
  dict : ∃ tkh, (d, dictOf [DictEntry.mk (PyData.keyHash (World.params w) (Str.ofString "_headers")) (.str (Str.ofString "_headers") tkh) (.ref l)] 1) ∈ news
  list : (l, W.listOf (rows.map Row.ref).toArray n) ∈ news
  objs : ∀ r ∈ rows, (r.a, r.obj) ∈ news
  ok : ∀ r ∈ rows, r.Ok

theorem findR_hit {rows : List Row} {nm : List Nat} {i : Nat} {r : Row} (hr : rows[i]? = some r) (hn : ∀ q ∈ rows.take i, q.k.map low ≠ nm) (h : r.k.map low = nm) : findR rows nm = some r := by
  induction rows generalizing i with
  | nil => simp at hr
  | cons q rows ih =>
    unfold findR
    rw [List.find?_cons]
    cases i with
    | zero =>
      simp at hr
      subst hr
      rw [h]
      simp
    | succ i =>
      have h1 : q.k.map low ≠ nm := hn q (by simp)
      have : (q.k.map low == nm) = false := by simpa using h1
      rw [this]
      exact ih (by simpa using hr) fun z hz => hn z (by simp [hz])
theorem findR_miss {rows : List Row} {nm : List Nat} (hn : ∀ q ∈ rows, q.k.map low ≠ nm) : findR rows nm = none := by
  unfold findR
  rw [List.find?_eq_none]
  intro q hq h
  exact hn q hq (by simpa using h)
theorem lowEq {a b : List Nat} (ha : Wd a) (hb : Wd b) : (Txt.lower (st a) == Txt.lower (st b)) = (a.map low == b.map low) := by
  rw [lower_st ha.lets, lower_st hb.lets]
  by_cases h : a.map low = b.map low
  · rw [h]; simp
  · have : st (a.map low) ≠ st (b.map low) := fun e => h (st_inj.mp e)
    rw [beq_eq_false_iff_ne.mpr this, beq_eq_false_iff_ne.mpr h]

theorem get_con {w p loose mean mg mb} {nIn : List (Addr × Obj)} {x d l : Addr} {n : Nat} {rows : List Row} {nm : List Nat} {t : Tok} (hT : Tab w x d l n rows nIn) (hw : Wd nm) :
    Con w p loose mean mg mb 3 24 216 [.ref x, .str (st nm) t] [] nIn (fun v nOut => v = getV rows nm .none ∧ nOut = nIn) := by
  unfold Con
  intro dp un gd cn cs a ccd cl outer A₀ base h₀ L m s Q E B F X N T hk hd hu hret
  refine wpAny_call ?_
  obtain ⟨hin, ⟨tkh, hdi⟩, hli, hro, hok⟩ := hT
  refine' code_defM [(Str.ofString "default", .none), (Str.ofString "name", .str (st nm) t), (Str.ofString "self", .ref x)] ?k1 ?k2 ?k3 ?k4 ?k5 ?kA ?kF ?kK ?k6 ?k7 ?k8 ?k9 ?kR ?kB ?_ ?c2 ?c3 ?c4 ?c5
  walk_at "mine sides"
  have hs1 := hw.len
  have hs2 := hw.plainLow
  k_steps
  rename Fr _ _ _ _ => F1
  rename News _ _ _ _ => N1
  refine' for_items F1 rfl (l := l) (its := (rows.map Row.ref).toArray) (n := n) (fun i m' news' => news' = nIn ∧ m' (Str.ofString "default") = some .none ∧ (∃ tk, m' (Str.ofString "name") = some (.str (Txt.lower (st nm)) tk)) ∧ ∀ r ∈ rows.take i, r.k.map low ≠ nm.map low) rfl (fun i m' news' hJ => by rw [hJ.1]; exact hli) ?he ?turn ?fin
  case he =>
    k_steps
    exact ItAt.intro (by k_asm) (by k_asm) ⟨rfl, rfl, ⟨_, rfl⟩, by simp⟩
  case turn =>
    intro i v m₁ news₁ I oI h tk hi hJ hne F₁ N₁
    obtain ⟨rfl, hd1, ⟨tkn, hn1⟩, hnot⟩ := hJ
    have F₂ := frKnowL [(Str.ofString "name", .str (Txt.lower (st nm)) tkn), (Str.ofString "default", .none)] F₁ (by simpa using ⟨hn1, hd1⟩)
    clear F₁
    rw [List.getElem?_toArray, List.getElem?_map] at hi
    obtain ⟨r, hr, rfl⟩ := Option.map_eq_some_iff.mp hi
    have hrm := List.mem_of_getElem? hr
    have N₂ := newsCons N₁ (List.mem_cons_of_mem _ (hro r hrm))
    have hrk := (hok r hrm).wd
    have hs3 := hrk.len
    clear N₁ hi N1 F1
    dsimp only [Row.ref]
    k_steps
    · rename (_ == _) = true => hq
      rw [lowEq hrk hw] at hq
      rename News _ _ _ _ => N9
      refine hret _ _ _ _ ⟨?_, rfl⟩ (by k_asm) (newsSub N9 fun p hp => List.mem_cons_of_mem _ (List.mem_cons_of_mem _ hp))
      unfold getV
      rw [findR_hit hr hnot (by simpa using hq)]
    · rename (_ == _) = false => hq
      rw [lowEq hrk hw] at hq
      rename News _ _ _ _ => N9
      refine turnNext (TurnEnd.intro (by k_asm) N9 (fun p hp => List.mem_cons_of_mem _ hp) hne ⟨rfl, rfl, ⟨_, rfl⟩, ?_⟩)
      intro q hq'
      rw [List.take_add_one, hr] at hq'
      rcases List.mem_append.mp hq' with h9 | h9
      · exact hnot q h9
      · simp at h9
        subst h9
        simpa using hq
  case fin =>
    intro m₁ news₁ h tk hJ F₁ N₁
    obtain ⟨rfl, hd1, ⟨tkn, hn1⟩, hnot⟩ := hJ
    have F₂ := frKnowL [(Str.ofString "name", .str (Txt.lower (st nm)) tkn), (Str.ofString "default", .none)] F₁ (by simpa using ⟨hn1, hd1⟩)
    clear F₁ N1 F1
    dsimp only
    k_steps
    refine hret _ _ _ _ ⟨?_, rfl⟩ (by k_asm) (by k_asm)
    unfold getV
    rw [findR_miss]
    simpa using hnot

theorem get_none {w p loose mean mg mb} {nIn : List (Addr × Obj)} {x d l : Addr} {n : Nat} {rows : List Row} {nm : List Nat} {t : Tok} (hT : Tab w x d l n rows nIn) (hw : Wd nm) (hno : findR rows (nm.map low) = none) :
    Con w p loose mean mg mb 3 24 216 [.ref x, .str (st nm) t] [] nIn (fun v nOut => v = .none ∧ nOut = nIn) := by
  have := get_con (w := w) (p := p) (loose := loose) (mean := mean) (mg := mg) (mb := mb) (t := t) hT hw
  unfold getV at this
  rw [hno] at this
  exact this
section
variable {M : Model} {A : Around} {E : Value → Shared → Prop} {s : Shared} {h₀ : Heap} {L : Addr} {m : Str → Option Value} {news : List (Addr × Obj)}
theorem newTupM {vs : List Value} {Q : Value → Shared → Prop} (F : Fr h₀ L s.heap m) (N : News h₀ L s.heap news)
    (h : ∀ D h', Fr h₀ L h' m → News h₀ L h' ((D, { cls := .type "tuple", data := .seq vs.toArray }) :: news) → (∀ p ∈ news, p.1 < D) → Q (.ref D) { s with heap := h' }) (hsz : vs.length ≤ sizeLine := by size_fits) :
    wpAny M A (newTuple vs) Q E s := newTuple_N F N (fun h' F' N' => h _ h' F' N' fun p hp => Heap.lt_size (N p hp).1) hsz
end
local macro_rules | `(tactic| walk_at "mine con") => `(tactic| exact get_none (by assumption) (by assumption) (by assumption))
theorem kw11 : True := by
  k_with "mine upd" => first | (refine Upd.head (by assumption)) | (refine Upd.tail (by (rename (∀ p ∈ _, Prod.fst p < _) => lt9; exact Nat.ne_of_gt (lt9 _ (List.Mem.head _)))) (by k_extra "mine upd"))
  exact True.intro
theorem kw12 : True := by
  k_with "newTuple" => (k_here; k_dflt (refine newTupM (by k_asm) (by k_asm) ?_ (by size_fits)); intro D' h' F' N' l1; (try k_sweep))
  exact True.intro
theorem kw13 : True := by
  k_with "call builtin:list.append" => (k_here; (with_reducible show wpAny _ _ (call (Value.builtin _) [Value.ref _, _]) _ _ _); k_dflt (refine append_K (by k_asm) (by k_asm) (by k_extra "mine upd") ?_ (by assumption); k_whole); intro h' F' N'; (try k_sweep))
  exact True.intro
local macro_rules | `(tactic| walk_at "call ref") => `(tactic| (k_here; (with_reducible show wpAny _ _ (call (Value.ref 216) _ _) _ _ _); k_dflt (refine' Con.use ?C ?B ?F ?X ?N ?T ?hk ?hd ?hu ?_; (case B => k_asm); (case F => k_asm); (case X => k_asm); (case N => k_asm); (case T => k_asm); (case hk => first | exact rfl | assumption); (case C => walk_at "mine con"); (case hd => ktr_room); (case hu => ktr_units); k_whole); intro v' nOut' h' tk' hpost F' N'; k_extra "mine post"; (try dsimp only); (try k_sweep)))

theorem setd_con {w p loose mean mg mb} {rest : List (Addr × Obj)} {x d l : Addr} {n : Nat} {rows : List Row} {nm : List Nat} {v : Str} {t tv : Tok} (hT : Tab w x d l n rows ((l, W.listOf (rows.map Row.ref).toArray n) :: rest)) (hoff : ∀ p ∈ rest, p.1 ≠ l) (hw : Wd nm) (hv : plainS v) (hno : findR rows (nm.map low) = none) (hsz : (rows.map Row.ref).toArray.size ≤ sizeLine) :
    Con w p loose mean mg mb 5 40 259 [.ref x, .str (st nm) t, .str v tv] [] ((l, W.listOf (rows.map Row.ref).toArray n) :: rest)
      (fun r nOut => ∃ q : Row, q.k = nm ∧ q.v = v ∧ (∀ p ∈ ((l, W.listOf (rows.map Row.ref).toArray n) :: rest), p.1 < q.a) ∧ nOut = (q.a, q.obj) :: (l, W.listOf ((rows ++ [q]).map Row.ref).toArray (n + 1)) :: rest) := by
  unfold Con
  intro dp un gd cn cs a ccd cl outer A₀ base h₀ L m s Q E B F X N T hk hd hu hret
  refine wpAny_call ?_
  have hp1 := hw.plain
  refine' code_defM [(Str.ofString "value", .str v tv), (Str.ofString "name", .str (st nm) t), (Str.ofString "self", .ref x)] ?k1 ?k2 ?k3 ?k4 ?k5 ?kA ?kF ?kK ?k6 ?k7 ?k8 ?k9 ?kR ?kB ?_ ?c2 ?c3 ?c4 ?c5
  walk_at "mine sides"
  obtain ⟨hin, ⟨tkh, hdi⟩, hli, hro, hok⟩ := id hT
  k_steps
  rename (∀ p ∈ _, Prod.fst p < _) => lt9
  rename News _ _ _ _ => N9
  exact hret _ _ _ _ ⟨⟨_, nm, t, v, tv⟩, rfl, rfl, lt9, by simp [Row.ref]⟩ (by k_asm) N9

section
variable {prog : Program} {w : World} {A : Around} {E : Value → Shared → Prop} {s : Shared} {h₀ : Heap} {L : Addr} {m : Str → Option Value} {news : List (Addr × Obj)} {l : Addr}
theorem sliceAllM {value slice : PySem.Expr} {its : Array Value} {n : Nat} {Q : Value → Shared → Prop} (F : Fr h₀ L s.heap m) (N : News h₀ L s.heap news) (hm : (l, W.listOf its n) ∈ news)
    (h : ∀ D h', Fr h₀ L h' m → News h₀ L h' ((D, W.listOf its 0) :: news) → (∀ p ∈ news, p.1 < D) → Q (.ref D) { s with heap := h' })
    (hs : subscripted slice false (.ref l) (.ref s.heap.objs.size) = operate [.ref s.heap.objs.size, .ref l] (getItem (.ref l) (.ref s.heap.objs.size))) (ht : ∀ r, letTemporaryGo value (.ref l) r = pure ()) (hz : its.size ≤ sizeLine) :
    wpAny (model prog w) A (subscriptTail value slice (.ref l) (.ref s.heap.objs.size)) Q E { s with heap := s.heap.push { cls := .type "slice", data := .fields #[.none, .none, .none] } } :=
  kmk_slice F N (N.isList hm) .none .none (fun D h' F' N' l1 => h D h' F' (by rw [slicePick_all] at N'; exact N') l1) hs ht hz
theorem lenM {its : Array Value} {n : Nat} {Q : Value → Shared → Prop} (N : News h₀ L s.heap news) (hm : (l, W.listOf its n) ∈ news) (hz : its.size ≤ sizeLine) (h : ∀ t k, Q (.int its.size t) { s with toks := k }) :
    wpAny (model prog w) A (call (.builtin "len") [.ref l]) Q E s := Calls.call_len_list (N.isList hm) (by have := sizeLine_eq; omega) (h _ _)
end
theorem kw14 : True := by
  k_with "call builtin:len" => (k_here; (with_reducible show wpAny _ _ (call (Value.builtin "len") [Value.ref _]) _ _ _); k_dflt (refine lenM (by k_asm) (by k_mem) (by assumption) ?_); intro _ _; (try dsimp only))
  exact True.intro
theorem kw15 : True := by
  k_with "subscriptTail" => (k_here; (with_reducible show wpAny _ _ (subscriptTail _ (PySem.Expr.Slice none none none _) (Value.ref _) (Value.ref _)) _ _ _); k_dflt (refine sliceAllM (by k_asm) (by k_asm) (by k_mem) ?_ (by with_unfolding_all rfl) (by kmk_pure) (by assumption)); intro D' h' F' N' l1; (try dsimp only); (try k_sweep))
  exact True.intro
theorem len_con {w p loose mean mg mb} {nIn : List (Addr × Obj)} {x d l : Addr} {n : Nat} {rows : List Row} (hT : Tab w x d l n rows nIn) (hsz : (rows.map Row.ref).toArray.size ≤ sizeLine) :
    Con w p loose mean mg mb 2 16 175 [.ref x] [] nIn (fun r nOut => (∃ t, r = .int rows.length t) ∧ nOut = nIn) := by
  unfold Con
  intro dp un gd cn cs a ccd cl outer A₀ base h₀ L m s Q E B F X N T hk hd hu hret
  refine wpAny_call ?_
  refine' code_defM [(Str.ofString "self", .ref x)] ?k1 ?k2 ?k3 ?k4 ?k5 ?kA ?kF ?kK ?k6 ?k7 ?k8 ?k9 ?kR ?kB ?_ ?c2 ?c3 ?c4 ?c5
  walk_at "mine sides"
  obtain ⟨hin, ⟨tkh, hdi⟩, hli, hro, hok⟩ := id hT
  k_steps
  simp only [List.size_toArray, List.length_map]
  exact hret _ _ _ _ ⟨⟨_, rfl⟩, rfl⟩ (by k_asm) (by k_asm)
theorem items_con {w p loose mean mg mb} {nIn : List (Addr × Obj)} {x d l : Addr} {n : Nat} {rows : List Row} (hT : Tab w x d l n rows nIn) (hsz : (rows.map Row.ref).toArray.size ≤ sizeLine) :
    Con w p loose mean mg mb 2 16 233 [.ref x] [] nIn (fun r nOut => ∃ a, r = .ref a ∧ (∀ p ∈ nIn, p.1 < a) ∧ nOut = (a, W.listOf (rows.map Row.ref).toArray 0) :: nIn) := by
  unfold Con
  intro dp un gd cn cs a ccd cl outer A₀ base h₀ L m s Q E B F X N T hk hd hu hret
  refine wpAny_call ?_
  refine' code_defM [(Str.ofString "self", .ref x)] ?k1 ?k2 ?k3 ?k4 ?k5 ?kA ?kF ?kK ?k6 ?k7 ?k8 ?k9 ?kR ?kB ?_ ?c2 ?c3 ?c4 ?c5
  walk_at "mine sides"
  obtain ⟨hin, ⟨tkh, hdi⟩, hli, hro, hok⟩ := id hT
  k_steps
  rename (∀ p ∈ _, Prod.fst p < _) => lt9
  exact hret _ _ _ _ ⟨_, rfl, lt9, rfl⟩ (by k_asm) (by k_asm)

local macro_rules | `(tactic| k_all) => `(tactic| (intro p hp; (rename (∀ p ∈ _, Prod.fst p < _) => lt9; have q9 := lt9 p hp; exact Nat.ne_of_lt (Nat.lt_succ_of_lt q9))))

def selfM (x : Addr) (m : Str → Option Value) : Str → Option Value := fun y => match List.lookup y [(Str.ofString "self", Value.ref x)] with | some v => some v | none => m y
theorem filter_take_hit {rows : List Row} {p : Row → Bool} {i : Nat} {r : Row} (hr : rows[i]? = some r) : ((rows.take (i + 1)).filter p).map Row.ref = ((rows.take i).filter p).map Row.ref ++ (if p r = true then [r.ref] else []) := by
  rw [List.take_add_one, hr, List.filter_append, List.map_append]
  congr 1
  simp only [Option.toList_some, List.filter_cons, List.filter_nil]
  split <;> rfl
section
variable {prog : Program} {w : World} {A : Around} {E : Value → Shared → Prop} {s : Shared} {h₀ : Heap} {L : Addr} {m : Str → Option Value} {news : List (Addr × Obj)} {l D sl : Addr}
/-- `l[:] = D` of a list by a list -/
theorem setSliceAt {xs ys : Array Value} {n k : Nat} {Q : Unit → Shared → Prop} (hl0 : s.heap.get? l = some (W.listOf xs n)) (hD : s.heap.get? D = some (W.listOf ys k)) (hs : s.heap.IsSliceOf sl .none .none .none) (hne : l ≠ D)
    (hz : xs.size ≤ 100000) (hz2 : ys.size ≤ 100000)
    (h : Q () { s with heap := s.heap.update l (Obj.mapSeq fun zs => zs.extract 0 (0 : Int).toNat ++ ys ++ zs.extract (max (0 : Int) (xs.size : Int)).toNat zs.size) }) :
    wpAny (model prog w) A (setItem (.ref l) (.ref sl) (.ref D)) Q E s := by
  have hl : s.heap.IsList l xs := PySem.IsL.isList (n := n) hl0
  obtain ⟨os, hos, hcs, hds⟩ := id hs
  have hTs : s.TypeIs (.ref sl) "slice" := ⟨os, hos, hcs⟩
  have hLD : s.heap.IsList D ys := PySem.IsL.isList (n := k) hD
  have hsl := sizeLine_eq
  unfold setItem
  try with_reducible refine wpAny_holding ?_
  first | refine wpAny_bind (wpAny_pure ?_) | skip
  refine wpAny_bind (wpAny_sequenceKey hl.typeIs (by decide) ?_)
  refine wpAny_bind (wpAny_callSpecial?_slot (name := Str.ofString "__setitem__") hl.typeIs slot_list_setitem
    (wpAny_call_entry slot_list_setitem hl.typeIs entry_list_setitem ?_ (args_list_setitem _ _ _)))
  show wpAny _ _ (Builtin.List.listSubscript? (.ref sl) >>= _) _ _ s
  refine wpAny_bind ?_
  unfold Builtin.List.listSubscript?
  refine wpAny_bind (wpAny_specialOf hTs slice_no_index ?_)
  simp only [Option.isNone_none, if_true]
  refine wpAny_pure ?_
  show wpAny _ _ (typeOf (.ref sl) >>= _) _ _ s
  refine wpAny_bind (wpAny_typeOf hTs ?_)
  rw [if_neg (by decide)]
  rw [listSliceParts_eq]
  refine wpAny_bind (wpAny_bind (wpAny_field hos hds (x := .none) rfl (wpAny_bind (wpAny_listPart .none ?_))))
  rw [if_neg (by decide)]
  refine wpAny_bind (wpAny_field hos hds (x := .none) rfl (wpAny_bind (wpAny_listPart .none ?_)))
  refine wpAny_bind (wpAny_field hos hds (x := .none) rfl (wpAny_bind (wpAny_listPart .none (wpAny_pure ?_))))
  have e1 : Builtin.List.listSameRef (.ref l) (.ref D) = false := by
    show (l == D) = false
    simpa using hne
  rw [e1, if_neg Bool.false_ne_true]
  refine wpAny_bind (m := Builtin.List.listAllItems (.ref D) _) ?_
  unfold Builtin.List.listAllItems
  refine wpAny_bind (wpAny_typeOf hLD.typeIs ?_)
  rw [if_pos (by decide)]
  refine wpAny_listItems hD rfl ?_
  refine wpAny_bind (m := Builtin.List.listItems (.ref l)) ?_
  refine wpAny_listItems hl0 rfl ?_
  refine wpAny_bind (wpAny_of_eq (sliceIndices_raw none none none xs.size (by simp)) ?_)
  rw [if_pos (by rfl)]
  refine wpAny_bind (wpAny_rule ?_)
  rw [if_neg (by unfold Builtin.List.listTooLong; simp; omega)]
  refine wpAny_bind (m := updateSeq l _) ?_
  refine wpAny_updateSeq hl0 rfl ?_ (by omega) ?_
  · refine wpAny_bind (wpAny_letGo ?_)
    exact wpAny_pure ⟨.none, rfl, wpAny_pure h⟩
  · simp [sliceBounds]; omega
theorem setSliceM {xs ys : List Value} {n k : Nat} {news' : Nat → List (Addr × Obj)} {Q : Unit → Shared → Prop} (F : Fr h₀ L s.heap m) (N : News h₀ L s.heap news) (hD : (D, W.listOf ys.toArray k) ∈ news) (U : ∀ n', Upd l (W.listOf xs.toArray n) (W.listOf ys.toArray n') news (news' n')) (hne : l ≠ D)
    (hz : xs.length ≤ 100000) (hz2 : ys.length ≤ 100000)
    (h : ∀ h' n', Fr h₀ L h' m → News h₀ L h' (news' n') → Q () { s with heap := h' }) :
    wpAny (model prog w) A (setItem (.ref l) (.ref s.heap.objs.size) (.ref D)) Q E { s with heap := s.heap.push { cls := .type "slice", data := .fields #[.none, .none, .none] } } := by
  obtain ⟨n', hn'⟩ : ∃ n', (if ys.toArray.size == xs.toArray.size then n else n + 1) = n' := ⟨_, rfl⟩
  obtain ⟨pre, post, e1, e2, a, c⟩ := (U n').split
  subst e1
  have F' := F.push { cls := .type "slice", data := .fields #[.none, .none, .none] }
  have N' := N.pushKeep { cls := .type "slice", data := .fields #[.none, .none, .none] }
  have z := N' (l, W.listOf xs.toArray n) (List.mem_append.mpr (.inr (.head _)))
  refine setSliceAt (s := { s with heap := s.heap.push { cls := .type "slice", data := .fields #[.none, .none, .none] } }) z.1 (N' _ hD).1 (Heap.IsSliceOf.new ..) hne (by simpa using hz) (by simpa using hz2) (h _ n' (F'.change (Heap.SameBut.update ..) z.2.1 z.2.2) ?_)
  rw [e2]
  refine ki_turn (n' := n') _ N' a c ?_ hn'
  apply Array.toList_inj.mp
  simp
end
theorem del_con {w p loose mean mg mb} {rest : List (Addr × Obj)} {x d l : Addr} {n : Nat} {rows : List Row} {nm : List Nat} {t : Tok} (hT : Tab w x d l n rows ((l, W.listOf (rows.map Row.ref).toArray n) :: rest)) (hoff : ∀ p ∈ rest, p.1 ≠ l) (hw : Wd nm) (hlen : rows.length ≤ 1000) :
    Con w p loose mean mg mb 4 40 187 [.ref x, .str (st nm) t] [] ((l, W.listOf (rows.map Row.ref).toArray n) :: rest)
      (fun r nOut => ∃ n', nOut = (l, W.listOf ((rows.filter fun r => r.k.map low != nm.map low).map Row.ref).toArray n') :: rest) := by
  unfold Con
  intro dp un gd cn cs a ccd cl outer A₀ base h₀ L m s Q E B F X N T hk hd hu hret
  refine wpAny_call ?_
  have hp1 := hw.plainLow
  have hs1 := hw.len
  have hsz : (rows.map Row.ref).toArray.size ≤ sizeLine := by rw [sizeLine_eq]; simp; omega
  k_dflt (refine' code_defC ?k1 ?k2 ?k3 ?k4 ?k5 ?kA ?kF ?kK ?k6 ?k7 ?k8 ?k9 ?kB ?kD ?_ ?c2 ?c3 ?c4; (case kA => exact rfl); (case kF => exact rfl); (case kK => assumption); (case k1 => k_asm); (case k2 => k_asm); (case k3 => k_asm); (case k4 => k_asm); (case k5 => k_asm); (case k6 => k_is); (case k7 => k_is); (case k8 => ktr_room); (case k9 => first | exact BindsTo.of_eq rfl | exact binds_K (by k_in) rfl (by k_is) rfl rfl rfl | fail "k_enter: no rule for these arguments"); (case kB => exact rfl); (case kD => decide +kernel); (case c2 => exact rfl); (case c3 => exact rfl); (case c4 => exact rfl); k_whole; intro g' L' h' tk' cells' FG' F' N' Y' B' X' T' l1; k_cells Y'; (try simp only [List.cons_append, List.nil_append] at N'); (try dsimp only); (try k_lift B'); (try k_fold))
  clear B F N X T
  obtain ⟨hin, ⟨tkh, hdi⟩, hli, hro, hok⟩ := id hT
  k_steps
  refine Halt.mk ?_
  rename Fr _ _ _ _ => F1
  rename News _ _ _ _ => N1
  obtain ⟨m1, hself, F2⟩ : ∃ m1 : Str → Option Value, m1 (Str.ofString "self") = some (.ref x) ∧ Fr g' L' _ m1 := ⟨_, rfl, F1⟩
  rename Obj.data _ = Data.cell (some _) => hcell
  clear F1
  have F3 : Fr g' L' _ (selfM x m1) := frKnowL [(Str.ofString "self", Value.ref x)] F2 (by simpa using hself)
  clear F2
  have hlist := hli
  generalize hLB : (l, W.listOf (rows.map Row.ref).toArray n) :: rest = LB at N1 hlist hin hdi hro
  rename Obj => oCell
  refine' comp_feed (S := fun news => (l, W.listOf (rows.map Row.ref).toArray n) ∈ news) (n := (rows.map Row.ref).toArray.size) (Item := fun i v ex => (rows.map Row.ref).toArray[i]? = some v ∧ ex = []) F3 (fun i acc m' news' => m' = selfM x m1 ∧ news' = (L' + 1, oCell) :: LB ∧ acc = ((rows.take i).filter fun r => r.k.map low != nm.map low).map Row.ref) (fun a b hab ha => hab _ ha) hsz ?hJn (cl := [(Str.ofString "name", L' + 1)]) ?hclos ?hcell ?hkind ?hnames ?he ?turn ?fin
  case hJn =>
    rintro i acc m' news' ⟨_, _, rfl⟩
    rw [List.length_map]
    exact Nat.le_trans (List.length_filter_le _ _) (by rw [List.length_take]; exact Nat.min_le_left _ _)
  case hclos => with_unfolding_all rfl
  case hcell => decide
  case hkind => rfl
  case hnames => decide
  case he =>
    k_steps
    refine Halt.mk ?_
    exact listFeedAt rfl ⟨_, _, rfl⟩ (by k_asm) (by k_asm) (by k_mem) ⟨rfl, rfl, rfl⟩
  case turn =>
    intro C D i v own ex acc nD oC mC m₁ news₁ h tk hi it hoC hJ hS ap off hCD F₁ N₁
    obtain ⟨rfl, rfl, hacc⟩ := hJ
    obtain ⟨hv, rfl⟩ := it
    rw [List.getElem?_toArray, List.getElem?_map] at hv
    obtain ⟨r, hr, rfl⟩ := Option.map_eq_some_iff.mp hv
    have hrm := List.mem_of_getElem? hr
    have hrk := (hok r hrm).wd
    have hs3 := hrk.len
    obtain ⟨Z, hZ⟩ : ∃ Z, Z = own ++ ((D, W.listOf acc.toArray nD) :: LB) := ⟨_, rfl⟩
    have N₂ : News g' L' h ((C, oC) :: (r.a, r.obj) :: (L' + 1, oCell) :: Z) := newsSub N₁ fun p hp => by
      subst hZ
      simp only [List.nil_append, List.mem_cons, List.mem_append] at hp ⊢
      rcases hp with rfl | rfl | rfl | hp | rfl | hp <;> simp_all
    have off9 : ∀ p ∈ (r.a, r.obj) :: (L' + 1, oCell) :: Z, p.1 ≠ C := by
      intro p hp
      subst hZ
      rcases List.mem_cons.mp hp with rfl | hp
      · exact (off _ (.tail _ (hro r hrm))).1
      · rcases List.mem_cons.mp hp with rfl | hp
        · exact (off _ (.head _)).1
        · rcases List.mem_append.mp hp with hp | hp
          · exact Ne.symm (ap p hp (C, oC) (.head _))
          · rcases List.mem_cons.mp hp with rfl | hp
            · exact Ne.symm hCD
            · exact (off p (.tail _ hp)).1
    clear N₁ N1 F3
    dsimp only [Row.ref]
    k_steps
    · rename (_ != _) = true => hq
      rename News _ _ _ _ => N9
      have e9 : (r.k.map low != nm.map low) = true := by
        rw [← hq]; unfold bne; rw [lowEq hrk hw]
      subst hZ
      refine CompTurn.intro (news' := (L' + 1, oCell) :: LB) (by k_asm) N9 (fun p hp => by simp [hp]) (.head _) (by assumption) (by simp) (fun p hp => ?_) (fun p hp q hq => ap p hp q (.tail _ (.tail _ hq))) off hS ⟨rfl, rfl, ?_⟩
      · rcases List.mem_cons.mp hp with rfl | hp
        · simp
        · simp [hp]
      · rw [filter_take_hit hr, e9, hacc]; rfl
    · rename (_ != _) = false => hq
      rename News _ _ _ _ => N9
      have e9 : (r.k.map low != nm.map low) = false := by
        rw [← hq]; unfold bne; rw [lowEq hrk hw]
      subst hZ
      refine CompTurn.intro (news' := (L' + 1, oCell) :: LB) (by k_asm) N9 (fun p hp => by simp [hp]) (.head _) (by assumption) (by simp) (fun p hp => ?_) (fun p hp q hq => ap p hp q (.tail _ (.tail _ hq))) off hS ⟨rfl, rfl, ?_⟩
      · rcases List.mem_cons.mp hp with rfl | hp
        · simp
        · simp [hp]
      · rw [filter_take_hit hr, e9, hacc]; simp
  case fin =>
    intro D acc nD m₁ news₁ h tk hJ off F₁ N₁
    obtain ⟨rfl, rfl, hacc⟩ := hJ
    clear N1 F3
    dsimp only
    k_steps
    rename (∀ p ∈ _, Prod.fst p < _) => lt9
    subst hLB
    have hlD : l ≠ D := off _ (.tail _ (.head _))
    have hoL : l ≠ L' + 1 := Nat.ne_of_lt (Nat.lt_succ_of_lt (lt9 _ (.head _)))
    refine setSliceM (xs := rows.map Row.ref) (ys := acc) (n := n) (k := nD) (news' := fun n' => (D, W.listOf acc.toArray nD) :: (L' + 1, oCell) :: (l, W.listOf acc.toArray n') :: rest) (by k_asm) (by k_asm) (.head _) ?_ hlD ?_ ?_ ?_
    · intro n'
      refine Upd.tail hlD.symm (Upd.tail hoL.symm (Upd.head hoff))
    · simpa using Nat.le_trans hlen (by decide)
    · rw [hacc, List.length_map]
      exact Nat.le_trans (List.length_filter_le _ _) (Nat.le_trans (List.length_take_le' _ _) (Nat.le_trans hlen (by decide)))
    intro h9 n' F9 N9
    dsimp only
    clear F₁ N₁
    rw [List.take_of_length_le (by simp)] at hacc
    subst hacc
    k_steps
    refine leaveK_ F9 N9 fun kF kN => ?_
    refine hret _ _ _ _ ⟨n', rfl⟩ kF (newsSub kN fun p hp => ?_)
    exact .tail _ (.tail _ hp)

theorem kw16 : True := by
  k_with "mine adr" => (show @Ne Nat _ _; omega)
  exact True.intro
/-- one of a zip's iterators: its own object at each place, and what it reads of the rest -/
structure Sub (prog : Program) (w : World) (A : Around) (it : Addr) (n : Nat) (P : Nat → Value → Prop) (SO : Nat → Obj → Prop) (rd : List (Addr × Obj)) : Prop where
  item : ∀ (i : Nat) (s : Shared) (Q : Value → Shared → Prop) (E : Value → Shared → Prop) (o : Obj), i < n → SO i o → s.heap.get? it = some o → (∀ p ∈ rd, s.heap.get? p.1 = some p.2) →
    (∀ x h' tk o', P i x → SO (i + 1) o' → h'.get? it = some o' → Heap.SameBut it s.heap h' → Q x { s with heap := h', toks := tk }) → wpAny (model prog w) A (Builtin.SmallTypes.nextOf (.ref it)) Q E s
  done : ∀ (s : Shared) (Q : Value → Shared → Prop) (E : Value → Shared → Prop) (o : Obj), SO n o → s.heap.get? it = some o → (∀ p ∈ rd, s.heap.get? p.1 = some p.2) →
    (∀ h' e, Heap.ExtBut it s.heap h' → (∃ o, h'.get? e = some o ∧ o.cls = .type "StopIteration") → E (.ref e) { s with heap := h' }) → wpAny (model prog w) A (Builtin.SmallTypes.nextOf (.ref it)) Q E s
abbrev signP (x : Str) (i : Nat) (v : Value) : Prop := ∃ c u, x.cps[i]? = some c ∧ v = .str ⟨#[c]⟩ u
abbrev signSO (x : Str) (t : Tok) (i : Nat) (o : Obj) : Prop := o.cls = .type "str_ascii_iterator" ∧ o.data = .fields #[.str x t, .int i 0]
abbrev listSO (l : Addr) (i : Nat) (o : Obj) : Prop := o.cls = .type "list_iterator" ∧ o.data = .fields #[.ref l, .int i 0]
theorem sub_str {prog : Program} {w : World} {A : Around} (hh : A.handled = none) (it : Addr) (x : Str) (t : Tok) : Sub prog w A it x.cps.size (signP x) (signSO x t) [] where
  item := fun i s Q E o hi hs ho _ hQ => (Draws.strAscii hh it x t).item i s Q E hi ⟨o, ho, hs⟩ fun v h' tk a st sb => by
    obtain ⟨o', ho', hs'⟩ := st
    exact hQ v h' tk o' a hs' ho' sb
  done := fun s Q E o hs ho _ hE => (Draws.strAscii hh it x t).done s Q E ⟨o, ho, hs⟩ hE
theorem sub_list {prog : Program} {w : World} {A : Around} (hh : A.handled = none) (it l : Addr) (hne : l ≠ it) (its : Array Value) (n0 : Nat) : Sub prog w A it its.size (fun i v => its[i]? = some v) (listSO l) [(l, W.listOf its n0)] where
  item := fun i s Q E o hi hs ho hr hQ => (Draws.list hh it l hne its).item i s Q E hi ⟨⟨o, ho, hs⟩, ⟨_, hr _ (.head _), rfl, _, rfl⟩⟩ fun v h' tk a st sb => by
    obtain ⟨⟨o', ho', hs'⟩, _⟩ := st
    exact hQ v h' tk o' a hs' ho' sb
  done := fun s Q E o hs ho hr hE => (Draws.list hh it l hne its).done s Q E ⟨⟨o, ho, hs⟩, ⟨_, hr _ (.head _), rfl, _, rfl⟩⟩ hE

section
variable {prog : Program} {w : World} {A : Around} {E : Value → Shared → Prop} {s : Shared} {b n1 n2 i : Nat} {P1 P2 : Nat → Value → Prop} {SO1 SO2 : Nat → Obj → Prop} {rd1 rd2 : List (Addr × Obj)} {o1 o2 : Obj} {x0 y0 : Value}
theorem zip_itemD {Q : Value → Shared → Prop} (D1 : Sub prog w A b n1 P1 SO1 rd1) (D2 : Sub prog w A (b + 1) n2 P2 SO2 rd2)
    (hz : IsZip s.heap (b + 4) (b + 2) (b + 3) .none) (hTI : IsPair s.heap (b + 2) (.ref b) (.ref (b + 1))) (hTO : IsPair s.heap (b + 3) x0 y0)
    (h1 : s.heap.get? b = some o1) (s1 : SO1 i o1) (h2 : s.heap.get? (b + 1) = some o2) (s2 : SO2 i o2) (r1 : ∀ p ∈ rd1, s.heap.get? p.1 = some p.2) (r2 : ∀ p ∈ rd2, s.heap.get? p.1 = some p.2) (d1 : ∀ p ∈ rd1, p.1 < b) (d2 : ∀ p ∈ rd2, p.1 < b) (hi1 : i < n1) (hi2 : i < n2)
    (hQ : ∀ x y (T : Addr) h' tk o1' o2', P1 i x → P2 i y → SO1 (i + 1) o1' → SO2 (i + 1) o2' → IsZip h' (b + 4) (b + 2) (b + 3) (rawInt T) → IsPair h' (b + 3) x y → h'.get? b = some o1' → h'.get? (b + 1) = some o2' → T = s.heap.objs.size → IsPair h' T x y → h'.objs.size = s.heap.objs.size + 1 →
      (∀ c o, c ≠ b + 4 → c ≠ b + 3 → c ≠ b → c ≠ b + 1 → s.heap.get? c = some o → h'.get? c = some o) → Q (.ref T) { s with heap := h', toks := tk }) :
    wpAny (model prog w) A (Builtin.«zip.__next__» ⟨[.ref (b + 4)], []⟩) (fun fin s' => ∃ v, fin = .done (.ret v) ∧ Q v s') E s := by
  show wpAny _ _ (field (.ref (b + 4)) 2 >>= _) _ _ _
  refine wpAny_bind (wpAny_field hz rfl (x := .bool false) rfl ?_)
  show wpAny _ _ (field (.ref (b + 4)) 3 >>= _) _ _ _
  refine wpAny_bind (wpAny_field hz rfl (x := .ref (b + 2)) rfl ?_)
  refine wpAny_bind (wpAny_seqItems hTI rfl ?_)
  show wpAny _ _ (Builtin.SmallTypes.ownedTupleIsFree (.ref (b + 4)) >>= _) _ _ _
  refine wpAny_bind ?_
  unfold Builtin.SmallTypes.ownedTupleIsFree
  refine wpAny_bind (wpAny_field hz rfl (x := .none) rfl (wpAny_pure ?_))
  simp only [if_true]
  refine wpAny_bind (wpAny_rule ?_)
  refine wpAny_bind (wpAny_field hz rfl (x := .ref (b + 3)) rfl ?_)
  refine wpAny_bind (wpAny_setField_rec hz (by simp) fun h₁ hz₁ hs₁ => ?_)
  replace hz₁ : IsZip h₁ (b + 4) (b + 2) (b + 3) .ellipsis := hz₁
  refine wpAny_bind ?_
  simp only [List.zipIdx_cons, List.zipIdx_nil, List.forIn_cons, List.forIn_nil]
  refine wpAny_bind (wpAny_bind (wpAny_onRaise ?_))
  show wpAny _ _ (Builtin.SmallTypes.nextOf (.ref b) >>= _) _ _ _
  refine wpAny_bind (D1.item i _ _ _ o1 hi1 s1 (hs₁.extBut b o1 (by k_extra "mine adr") h1) (fun p hp => hs₁.extBut _ _ (by have q : @LT.lt Nat _ p.1 b := d1 p hp; k_extra "mine adr") (r1 p hp)) fun x h₂ tk₂ o1' hPx hs1' h1₂ hs₂ => wpAny_pure ?_)
  replace hs₂ : Heap.SameBut b h₁ h₂ := hs₂
  have hTO₂ : IsPair h₂ (b + 3) x0 y0 := hs₂.extBut _ _ (by k_extra "mine adr") (hs₁.extBut _ _ (by k_extra "mine adr") hTO)
  refine wpAny_bind (wpAny_seqItems hTO₂ rfl ?_)
  refine wpAny_bind (wpAny_updateSeq_pair hTO₂ fun h₃ hTO₃ hs₃ => ?_)
  replace hTO₃ : IsPair h₃ (b + 3) x y0 := hTO₃
  replace hs₃ : Heap.SameBut (b + 3) h₂ h₃ := hs₃
  refine wpAny_bind (wpAny_letGo (wpAny_pure ?_))
  refine wpAny_bind (wpAny_bind (wpAny_onRaise ?_))
  show wpAny _ _ (Builtin.SmallTypes.nextOf (.ref (b + 1)) >>= _) _ _ _
  refine wpAny_bind (D2.item i _ _ _ o2 hi2 s2 (hs₃.extBut _ _ (by k_extra "mine adr") (hs₂.extBut _ _ (by k_extra "mine adr") (hs₁.extBut _ o2 (by k_extra "mine adr") h2)))
    (fun p hp => have q : @LT.lt Nat _ p.1 b := d2 p hp; hs₃.extBut _ _ (by k_extra "mine adr") (hs₂.extBut _ _ (by k_extra "mine adr") (hs₁.extBut _ _ (by k_extra "mine adr") (r2 p hp)))) fun y h₄ tk₄ o2' hPy hs2' h2₄ hs₄ => wpAny_pure ?_)
  replace hs₄ : Heap.SameBut (b + 1) h₃ h₄ := hs₄
  have hTO₄ : IsPair h₄ (b + 3) x y0 := hs₄.extBut _ _ (by k_extra "mine adr") hTO₃
  refine wpAny_bind (wpAny_seqItems hTO₄ rfl ?_)
  refine wpAny_bind (wpAny_updateSeq_pair hTO₄ fun h₅ hTO₅ hs₅ => ?_)
  replace hTO₅ : IsPair h₅ (b + 3) x y := hTO₅
  replace hs₅ : Heap.SameBut (b + 3) h₄ h₅ := hs₅
  refine wpAny_bind (wpAny_letGo (wpAny_pure (wpAny_pure ?_)))
  refine wpAny_bind (wpAny_seqItems hTO₅ rfl ?_)
  refine wpAny_bind (wpAny_newTuple ?_)
  have hsz : h₅.objs.size = s.heap.objs.size := by rw [hs₅.1, hs₄.1, hs₃.1, hs₂.1, hs₁.1]
  have hk₅ : ∀ c o, c ≠ b + 4 → c ≠ b + 3 → c ≠ b → c ≠ b + 1 → s.heap.get? c = some o → h₅.get? c = some o := fun c o c1 c2 c3 c4 e =>
    hs₅.extBut _ _ c2 (hs₄.extBut _ _ c4 (hs₃.extBut _ _ c2 (hs₂.extBut _ _ c3 (hs₁.extBut _ _ c1 e))))
  have hz₅ : IsZip h₅ (b + 4) (b + 2) (b + 3) .ellipsis := hs₅.extBut _ _ (by k_extra "mine adr") (hs₄.extBut _ _ (by k_extra "mine adr") (hs₃.extBut _ _ (by k_extra "mine adr") (hs₂.extBut _ _ (by k_extra "mine adr") hz₁)))
  have h1₅ : h₅.get? b = some o1' := hs₅.extBut _ _ (by k_extra "mine adr") (hs₄.extBut _ _ (by k_extra "mine adr") (hs₃.extBut _ _ (by k_extra "mine adr") h1₂))
  have h2₅ : h₅.get? (b + 1) = some o2' := hs₅.extBut _ _ (by k_extra "mine adr") h2₄
  have hzlt : b + 4 < h₅.objs.size := Heap.lt_size hz₅
  show wpAny _ _ (Builtin.SmallTypes.ownedTupleHandOut (.ref (b + 4)) (.ref h₅.objs.size) >>= _) _ _ _
  refine wpAny_bind ?_
  unfold Builtin.SmallTypes.ownedTupleHandOut
  have hz₆ : IsZip (h₅.push { cls := .type "tuple", data := .seq #[x, y] }) (b + 4) (b + 2) (b + 3) .ellipsis := Heap.get?_push_of_some _ hz₅
  refine wpAny_bind (wpAny_setField_rec hz₆ (by simp) fun h₇ hz₇ hs₇ => ?_)
  replace hz₇ : IsZip h₇ (b + 4) (b + 2) (b + 3) (rawInt h₅.objs.size) := hz₇
  refine wpAny_setField_rec hz₇ (by simp) fun h₈ hz₈ hs₈ => ?_
  replace hz₈ : IsZip h₈ (b + 4) (b + 2) (b + 3) (rawInt h₅.objs.size) := hz₈
  have up : ∀ c o, c ≠ b + 4 → h₅.get? c = some o → h₈.get? c = some o := fun c o c1 e => hs₈.extBut _ _ c1 (hs₇.extBut _ _ c1 (Heap.get?_push_of_some _ e))
  have hT₈ : IsPair h₈ h₅.objs.size x y := hs₈.extBut _ _ (Nat.ne_of_gt hzlt) (hs₇.extBut _ _ (Nat.ne_of_gt hzlt) (Heap.get?_push_size _ rfl))
  have hz8 : h₈.objs.size = h₅.objs.size + 1 := by rw [hs₈.1, hs₇.1, Heap.size_push]
  refine wpAny_pure ⟨_, rfl, ?_⟩
  exact hQ x y h₅.objs.size h₈ _ o1' o2' hPx hPy hs1' hs2' hz₈ (up _ _ (by k_extra "mine adr") hTO₅) (up _ _ (by k_extra "mine adr") h1₅) (up _ _ (by k_extra "mine adr") h2₅) hsz hT₈ (by rw [hz8, hsz]) fun c o c1 c2 c3 c4 e => up c o c1 (hk₅ c o c1 c2 c3 c4 e)
theorem zip_endD {Q : Fin → Shared → Prop} (D1 : Sub prog w A b n1 P1 SO1 rd1) (D2 : Sub prog w A (b + 1) n2 P2 SO2 rd2)
    (hz : IsZip s.heap (b + 4) (b + 2) (b + 3) .none) (hTI : IsPair s.heap (b + 2) (.ref b) (.ref (b + 1))) (hTO : IsPair s.heap (b + 3) x0 y0)
    (h1 : s.heap.get? b = some o1) (s1 : SO1 (min n1 n2) o1) (h2 : s.heap.get? (b + 1) = some o2) (s2 : SO2 (min n1 n2) o2) (r1 : ∀ p ∈ rd1, s.heap.get? p.1 = some p.2) (r2 : ∀ p ∈ rd2, s.heap.get? p.1 = some p.2) (d1 : ∀ p ∈ rd1, p.1 < b) (d2 : ∀ p ∈ rd2, p.1 < b)
    (hE : ∀ h' e tk, (∀ c o, c ≠ b + 4 → c ≠ b + 3 → c ≠ b → c ≠ b + 1 → s.heap.get? c = some o → h'.get? c = some o) → (∃ o, h'.get? e = some o ∧ o.cls = .type "StopIteration") → E (.ref e) { s with heap := h', toks := tk }) :
    wpAny (model prog w) A (Builtin.«zip.__next__» ⟨[.ref (b + 4)], []⟩) Q E s := by
  show wpAny _ _ (field (.ref (b + 4)) 2 >>= _) _ _ _
  refine wpAny_bind (wpAny_field hz rfl (x := .bool false) rfl ?_)
  show wpAny _ _ (field (.ref (b + 4)) 3 >>= _) _ _ _
  refine wpAny_bind (wpAny_field hz rfl (x := .ref (b + 2)) rfl ?_)
  refine wpAny_bind (wpAny_seqItems hTI rfl ?_)
  show wpAny _ _ (Builtin.SmallTypes.ownedTupleIsFree (.ref (b + 4)) >>= _) _ _ _
  refine wpAny_bind ?_
  unfold Builtin.SmallTypes.ownedTupleIsFree
  refine wpAny_bind (wpAny_field hz rfl (x := .none) rfl (wpAny_pure ?_))
  simp only [if_true]
  refine wpAny_bind (wpAny_rule ?_)
  refine wpAny_bind (wpAny_field hz rfl (x := .ref (b + 3)) rfl ?_)
  refine wpAny_bind (wpAny_setField_rec hz (by simp) fun h₁ hz₁ hs₁ => ?_)
  replace hz₁ : IsZip h₁ (b + 4) (b + 2) (b + 3) .ellipsis := hz₁
  refine wpAny_bind ?_
  simp only [List.zipIdx_cons, List.zipIdx_nil, List.forIn_cons, List.forIn_nil]
  refine wpAny_bind (wpAny_bind (wpAny_onRaise ?_))
  show wpAny _ _ (Builtin.SmallTypes.nextOf (.ref b) >>= _) _ _ _
  have h1₁ := hs₁.extBut b o1 (by k_extra "mine adr") h1
  have r1₁ : ∀ p ∈ rd1, h₁.get? p.1 = some p.2 := fun p hp => hs₁.extBut _ _ (by have q : @LT.lt Nat _ p.1 b := d1 p hp; k_extra "mine adr") (r1 p hp)
  by_cases hle : n1 ≤ n2
  · rw [Nat.min_eq_left hle] at s1
    refine wpAny_bind (D1.done _ _ _ o1 s1 h1₁ r1₁ fun h₂ e hs₂ he => ?_)
    replace hs₂ : Heap.ExtBut b h₁ h₂ := hs₂
    obtain ⟨oe, hoe, hce⟩ := he
    have hz₂ : IsZip h₂ (b + 4) (b + 2) (b + 3) .ellipsis := hs₂ _ _ (by k_extra "mine adr") hz₁
    have hez : e ≠ b + 4 := fun x => by subst x; rw [hz₂] at hoe; cases hoe; simp at hce
    refine wpAny_setField_rec hz₂ (by simp) fun h₃ _ hs₃ => hE h₃ e _ (fun c o c1 _ c3 _ x => hs₃.extBut _ _ c1 (hs₂ _ _ c3 (hs₁.extBut _ _ c1 x))) ⟨oe, hs₃.extBut _ _ hez hoe, hce⟩
  · have hlt : n2 < n1 := by omega
    rw [Nat.min_eq_right (Nat.le_of_lt hlt)] at s1 s2
    refine wpAny_bind (D1.item n2 _ _ _ o1 hlt s1 h1₁ r1₁ fun x h₂ tk₂ o1' hPx hs1' h1₂ hs₂ => wpAny_pure ?_)
    replace hs₂ : Heap.SameBut b h₁ h₂ := hs₂
    have hTO₂ : IsPair h₂ (b + 3) x0 y0 := hs₂.extBut _ _ (by k_extra "mine adr") (hs₁.extBut _ _ (by k_extra "mine adr") hTO)
    refine wpAny_bind (wpAny_seqItems hTO₂ rfl ?_)
    refine wpAny_bind (wpAny_updateSeq_pair hTO₂ fun h₃ hTO₃ hs₃ => ?_)
    replace hs₃ : Heap.SameBut (b + 3) h₂ h₃ := hs₃
    refine wpAny_bind (wpAny_letGo (wpAny_pure ?_))
    refine wpAny_bind (wpAny_bind (wpAny_onRaise ?_))
    show wpAny _ _ (Builtin.SmallTypes.nextOf (.ref (b + 1)) >>= _) _ _ _
    refine wpAny_bind (D2.done _ _ _ o2 s2 (hs₃.extBut _ _ (by k_extra "mine adr") (hs₂.extBut _ _ (by k_extra "mine adr") (hs₁.extBut _ o2 (by k_extra "mine adr") h2)))
      (fun p hp => have q : @LT.lt Nat _ p.1 b := d2 p hp; hs₃.extBut _ _ (by k_extra "mine adr") (hs₂.extBut _ _ (by k_extra "mine adr") (hs₁.extBut _ _ (by k_extra "mine adr") (r2 p hp)))) fun h₄ e hs₄ he => ?_)
    replace hs₄ : Heap.ExtBut (b + 1) h₃ h₄ := hs₄
    obtain ⟨oe, hoe, hce⟩ := he
    have hz₄ : IsZip h₄ (b + 4) (b + 2) (b + 3) .ellipsis := hs₄ _ _ (by k_extra "mine adr") (hs₃.extBut _ _ (by k_extra "mine adr") (hs₂.extBut _ _ (by k_extra "mine adr") hz₁))
    have hez : e ≠ b + 4 := fun x => by subst x; rw [hz₄] at hoe; cases hoe; simp at hce
    refine wpAny_setField_rec hz₄ (by simp) fun h₅ _ hs₅ => hE h₅ e _ (fun c o c1 c2 c3 c4 x => hs₅.extBut _ _ c1 (hs₄ _ _ c4 (hs₃.extBut _ _ c2 (hs₂.extBut _ _ c3 (hs₁.extBut _ _ c1 x))))) ⟨oe, hs₅.extBut _ _ hez hoe, hce⟩
end
abbrev zipObj (b : Addr) : Obj := { cls := .type "zip", dict := none, data := .fields #[.none, .bool false, .bool false, .ref (b + 2), .ref (b + 3)], slots := #[] }
abbrev pairObj (x y : Value) : Obj := { cls := .type "tuple", data := .seq #[x, y] }
abbrev zipOwn (b : Addr) (o1 o2 : Obj) (x y : Value) : List (Addr × Obj) := [(b + 4, zipObj b), (b + 3, pairObj x y), (b + 2, pairObj (.ref b) (.ref (b + 1))), (b + 1, o2), (b, o1)]
def ZipSt (b : Addr) (SO1 SO2 : Nat → Obj → Prop) (i : Nat) (own : List (Addr × Obj)) : Prop := ∃ o1 o2 x y, own = zipOwn b o1 o2 x y ∧ SO1 i o1 ∧ SO2 i o2
def ZipItem (P1 P2 : Nat → Value → Prop) (i : Nat) (v : Value) (ex : List (Addr × Obj)) : Prop := ∃ x y T, P1 i x ∧ P2 i y ∧ v = .ref T ∧ ex = [(T, pairObj x y)]
section
variable {b : Addr} {o1 o2 : Obj} {x y : Value}
theorem zm4 : (b + 4, zipObj b) ∈ zipOwn b o1 o2 x y := by simp [zipOwn]
theorem zm3 : (b + 3, pairObj x y) ∈ zipOwn b o1 o2 x y := by simp [zipOwn]
theorem zm1 : (b + 1, o2) ∈ zipOwn b o1 o2 x y := by simp [zipOwn]
theorem zm0 : (b, o1) ∈ zipOwn b o1 o2 x y := by simp [zipOwn]
end
theorem frMove {h₀ h h' : Heap} {L : Addr} {m : Str → Option Value} {own news : List (Addr × Obj)} (F : Fr h₀ L h m) (N : News h₀ L h (own ++ news)) (ap : Apart own news) (hk : ∀ c o, (∀ p ∈ own, c ≠ p.1) → h.get? c = some o → h'.get? c = some o) : Fr h₀ L h' m ∧ News h₀ L h' news := by
  refine ⟨⟨F.ns.at' fun o e => hk _ o (fun p hp => Ne.symm (N p (List.mem_append_left _ hp)).2.1) e, fun c o e => hk c o (fun p hp z => ?_) (F.keep c o e), F.above⟩, fun p hp => ?_⟩
  · have q := (N p (List.mem_append_left _ hp)).2.2
    rw [← z, e] at q
    cases q
  · have z := N p (List.mem_append_right _ hp)
    exact ⟨hk _ _ (fun q hq => ap q hq p hp) z.1, z.2⟩
theorem zip_feed {prog : Program} {w : World} {A : Around} {h₀ : Heap} {L : Addr} {elts : List Expr} {k} {pos : Pos} {b n1 n2 : Nat} {P1 P2 : Nat → Value → Prop} {SO1 SO2 : Nat → Obj → Prop} {rd1 rd2 : List (Addr × Obj)}
    (D1 : Sub prog w A.in1 b n1 P1 SO1 rd1) (D2 : Sub prog w A.in1 (b + 1) n2 P2 SO2 rd2) (d1 : ∀ p ∈ rd1, p.1 < b) (d2 : ∀ p ∈ rd2, p.1 < b) :
    Feed prog w A h₀ L (.Tuple elts k pos) (b + 4) (min n1 n2) (ZipSt b SO1 SO2) (ZipItem P1 P2) (fun news => (∀ p ∈ rd1, p ∈ news) ∧ ∀ p ∈ rd2, p ∈ news) where
  item := by
    rintro i own news m s Q E hlt ⟨o1, o2, x0, y0, rfl, s1, s2⟩ ⟨hS1, hS2⟩ F N ap hQ
    have hz := (N (b + 4, zipObj b) (by simp [zipOwn])).1
    have hTO := (N (b + 3, pairObj x0 y0) (by simp [zipOwn])).1
    have hTI := (N (b + 2, pairObj (.ref b) (.ref (b + 1))) (by simp [zipOwn])).1
    have h2 := (N (b + 1, o2) (by simp [zipOwn])).1
    have h1 := (N (b, o1) (by simp [zipOwn])).1
    have hT : s.TypeIs (.ref (b + 4)) "zip" := ⟨_, hz, rfl⟩
    have hzL : b + 4 < s.heap.objs.size := Heap.lt_size hz
    unfold pyNext
    refine wpAny_bind (wpAny_attempt (wpAny_callSpecial?_slot (name := Str.ofString "__next__") hT PySem.F.slot_zip_next
      (wpAny_call_entry PySem.F.slot_zip_next hT PySem.F.entry_zip_next
        (zip_itemD D1 D2 hz hTI hTO h1 s1 h2 s2 (fun p hp => (N p (List.mem_append_right _ (hS1 p hp))).1) (fun p hp => (N p (List.mem_append_right _ (hS2 p hp))).1) d1 d2 (Nat.lt_of_lt_of_le hlt (Nat.min_le_left ..)) (Nat.lt_of_lt_of_le hlt (Nat.min_le_right ..))
          fun x y T h' tk o1' o2' p1 p2 t1 t2 gz gTO g1 g2 eT gT hsz hk => wpAny_pure ?_) (PySem.F.args_zip_next_1 _))))
    refine wpAny_letOwnedTupleGo_zip gz fun h'' hz'' hs'' => ?_
    replace hs'' : Heap.SameBut (b + 4) h' h'' := hs''
    have hTs : @LT.lt Nat _ (b + 4) T := by rw [eT]; exact hzL
    have up : ∀ c o, c ≠ b + 4 → c ≠ b + 3 → c ≠ b → c ≠ b + 1 → s.heap.get? c = some o → h''.get? c = some o := fun c o c1 c2 c3 c4 e => hs''.extBut _ _ c1 (hk c o c1 c2 c3 c4 e)
    have mv := frMove (h' := h'') F N ap fun c o hc e => up c o (hc _ zm4) (hc _ zm3) (hc _ zm0) (hc _ zm1) e
    have NT := (News.push F N (pairObj x y)) (s.heap.objs.size, pairObj x y) (.head _)
    refine hQ (.ref T) (zipOwn b o1' o2' x y) [(T, pairObj x y)] h'' tk ⟨o1', o2', x, y, rfl, t1, t2⟩ ⟨x, y, T, p1, p2, rfl, rfl⟩ (fun p hp q hq => ?_) mv.1 fun p hp => ?_
    · rcases List.mem_cons.mp hq with rfl | hq
      · simp only [zipOwn, List.mem_cons, List.not_mem_nil, or_false] at hp
        rcases hp with rfl | rfl | rfl | rfl | rfl <;> k_extra "mine adr"
      · refine fun e => ?_
        simp only [zipOwn, List.mem_cons, List.not_mem_nil, or_false] at hp
        rcases hp with rfl | rfl | rfl | rfl | rfl
        · exact ap (b + 4, zipObj b) (by simp [zipOwn]) q hq e
        · exact ap (b + 3, pairObj x0 y0) (by simp [zipOwn]) q hq e
        · exact ap (b + 2, pairObj (.ref b) (.ref (b + 1))) (by simp [zipOwn]) q hq e
        · exact ap (b + 1, o2) (by simp [zipOwn]) q hq e
        · exact ap (b, o1) (by simp [zipOwn]) q hq e
    · rcases List.mem_append.mp hp with hp | hp
      · simp only [zipOwn, List.mem_cons, List.not_mem_nil, or_false] at hp
        rcases hp with rfl | rfl | rfl | rfl | rfl
        · exact ⟨hz'', (N (b + 4, zipObj b) (by simp [zipOwn])).2⟩
        · exact ⟨hs''.extBut _ _ (by k_extra "mine adr") gTO, (N (b + 3, pairObj x0 y0) (by simp [zipOwn])).2⟩
        · exact ⟨up _ _ (by k_extra "mine adr") (by k_extra "mine adr") (by k_extra "mine adr") (by k_extra "mine adr") hTI, (N (b + 2, pairObj (.ref b) (.ref (b + 1))) (by simp [zipOwn])).2⟩
        · exact ⟨hs''.extBut _ _ (by k_extra "mine adr") g2, (N (b + 1, o2) (by simp [zipOwn])).2⟩
        · exact ⟨hs''.extBut _ _ (by k_extra "mine adr") g1, (N (b, o1) (by simp [zipOwn])).2⟩
      · rcases List.mem_cons.mp hp with rfl | hp
        · refine ⟨hs''.extBut _ _ (by k_extra "mine adr") gT, ?_⟩
          rw [eT]
          exact NT.2
        · exact mv.2 p hp
  done := by
    rintro own news m s Q E ⟨o1, o2, x0, y0, rfl, s1, s2⟩ ⟨hS1, hS2⟩ F N ap hQ
    have hz := (N (b + 4, zipObj b) (by simp [zipOwn])).1
    have hTO := (N (b + 3, pairObj x0 y0) (by simp [zipOwn])).1
    have hTI := (N (b + 2, pairObj (.ref b) (.ref (b + 1))) (by simp [zipOwn])).1
    have h2 := (N (b + 1, o2) (by simp [zipOwn])).1
    have h1 := (N (b, o1) (by simp [zipOwn])).1
    have hT : s.TypeIs (.ref (b + 4)) "zip" := ⟨_, hz, rfl⟩
    unfold pyNext
    refine wpAny_bind (wpAny_attempt (wpAny_callSpecial?_slot (name := Str.ofString "__next__") hT PySem.F.slot_zip_next
      (wpAny_call_entry PySem.F.slot_zip_next hT PySem.F.entry_zip_next
        (zip_endD D1 D2 hz hTI hTO h1 s1 h2 s2 (fun p hp => (N p (List.mem_append_right _ (hS1 p hp))).1) (fun p hp => (N p (List.mem_append_right _ (hS2 p hp))).1) d1 d2 fun h' e tk hk he => ?_) (PySem.F.args_zip_next_1 _))))
    obtain ⟨o, ho, hc⟩ := he
    refine wpAny_bind (wpAny_isInstance (T := "StopIteration") (b := true) ⟨o, ho, hc⟩ isSubtype_stop ?_)
    have mv := frMove (h' := h') F N ap fun c o hc e => hk c o (hc _ zm4) (hc _ zm3) (hc _ zm0) (hc _ zm1) e
    exact wpAny_pure (hQ _ _ mv.1 mv.2)
  self := by
    rintro i own s Q E ⟨o1, o2, x0, y0, rfl, s1, s2⟩ N hQ
    exact wpAny_pyIter_zip (N (b + 4, zipObj b) (by simp [zipOwn])).1 hQ
/-- a zip's second source: any iter at hand -/
structure Src (prog : Program) (w : World) (v : Value) (o2 : Obj) (rd : List (Addr × Obj)) : Prop where
  it : ∀ (A : Around) (s : Shared) (Q : Value → Shared → Prop) (E : Value → Shared → Prop), (∀ p ∈ rd, s.heap.get? p.1 = some p.2) → Q (.ref s.heap.objs.size) { s with heap := s.heap.push o2 } → wpAny (model prog w) A (pyIter v) Q E s
  live : o2.isFreed = false
theorem src_str {prog : Program} {w : World} {x : Str} {t : Tok} (hx : x.cps.all (· < 128) = true) : Src prog w (.str x t) { cls := .type "str_ascii_iterator", data := .fields #[.str x t, .int 0 0] } [] :=
  ⟨fun _ _ _ _ _ h => wpAny_pyIter_ascii hx h, rfl⟩
theorem src_list {prog : Program} {w : World} {l : Addr} {its : Array Value} {n : Nat} : Src prog w (.ref l) { cls := .type "list_iterator", data := .fields #[.ref l, .int 0 0] } [(l, W.listOf its n)] :=
  ⟨fun _ _ _ _ hr h => wpAny_pyIter_list ⟨_, hr _ (.head _), rfl, n, rfl⟩ h, rfl⟩
section
variable {prog : Program} {w : World} {A : Around} {E : Value → Shared → Prop} {s : Shared} {h₀ : Heap} {L : Addr} {m : Str → Option Value} {news : List (Addr × Obj)}
abbrev sIt (x : Str) (t : Tok) : Obj := { cls := .type "str_ascii_iterator", data := .fields #[.str x t, .int 0 0] }
abbrev zH2 (h : Heap) (o1 o2 : Obj) : Heap := (h.push o1).push o2
abbrev zH3 (h : Heap) (o1 o2 : Obj) : Heap := (zH2 h o1 o2).push { cls := .type "tuple", data := .seq #[.ref h.objs.size, .ref (h.push o1).objs.size] }
abbrev zH4 (h : Heap) (o1 o2 : Obj) : Heap := (zH3 h o1 o2).push { cls := .type "tuple", data := .seq #[.none, .none] }
abbrev zH5 (h : Heap) (o1 o2 : Obj) : Heap := (zH4 h o1 o2).push { cls := .type "zip", data := .fields #[.none, .bool false, .bool false, .ref (zH2 h o1 o2).objs.size, .ref (zH3 h o1 o2).objs.size] }
theorem meets_zip_src {x : Str} {t : Tok} {v2 : Value} {o2 : Obj} {rd : List (Addr × Obj)} (hx : x.cps.all (· < 128) = true) (hs : Src prog w v2 o2 rd) :
    MeetsIn prog w (Builtin.«zip.__new__» ⟨[.type "zip", .str x t, v2], []⟩) (fun _ R s => (∀ p ∈ rd, s.heap.get? p.1 = some p.2) ∧ R (.ok (.ret (.ref (zH4 s.heap (sIt x t) o2).objs.size))) { s with heap := zH5 s.heap (sIt x t) o2 }) :=
  .of_wp fun A R s h => by
    obtain ⟨hp, g, d, tk, os⟩ := s
    obtain ⟨hl, h⟩ := h
    have hsub := sub_zip
    have hL2 : ∀ p ∈ rd, (hp.push (sIt x t)).get? p.1 = some p.2 := fun p hp' => Heap.get?_push_of_some _ (hl p hp')
    wp_walk using wpAny_pyIter_ascii hx, hs.it _ ⟨hp.push (sIt x t), g, d, tk, os⟩ _ _ hL2
    exact ⟨_, rfl, h⟩
theorem zip_call {x : Str} {t : Tok} {v2 : Value} {o2 : Obj} {rd : List (Addr × Obj)} {Q : Value → Shared → Prop} (hx : x.cps.all (· < 128) = true) (hs : Src prog w v2 o2 rd) (F : Fr h₀ L s.heap m) (N : News h₀ L s.heap news) (hr : ∀ p ∈ rd, p ∈ news)
    (h : ∀ h' b, Fr h₀ L h' m → News h₀ L h' (zipOwn b (sIt x t) o2 .none .none ++ news) → (∀ p ∈ news, p.1 < b) → Q (.ref (b + 4)) { s with heap := h' }) :
    wpAny (model prog w) A (call (.type "zip") [.str x t, v2]) Q E s := by
  refine callType_newIn PySem.F.called_zip (by decide) (PySem.F.typeCall_zip_2 _ _) (PySem.F.newCall_zip_2 _ _) (fun obj => PySem.F.args_object_init_3 obj _ _) PySem.F.entry_zip_new
    (meets_zip_src hx hs) ⟨fun p hp => (N p (hr p hp)).1, ?_⟩
  have z1 : (s.heap.push (sIt x t)).objs.size = s.heap.objs.size + 1 := Heap.size_push ..
  have z2 : (zH2 s.heap (sIt x t) o2).objs.size = s.heap.objs.size + 2 := by rw [Heap.size_push, z1]
  have z3 : (zH3 s.heap (sIt x t) o2).objs.size = s.heap.objs.size + 3 := by rw [Heap.size_push, z2]
  have z4 : (zH4 s.heap (sIt x t) o2).objs.size = s.heap.objs.size + 4 := by rw [Heap.size_push, z3]
  have n1 := News.push F N (sIt x t)
  have n2 := News.push (F.push _) n1 o2 hs.live
  have n3 := News.push ((F.push _).push _) n2 { cls := .type "tuple", data := .seq #[.ref s.heap.objs.size, .ref (s.heap.push (sIt x t)).objs.size] }
  have n4 := News.push (((F.push _).push _).push _) n3 { cls := .type "tuple", data := .seq #[.none, .none] }
  have n5 := News.push ((((F.push _).push _).push _).push _) n4 { cls := .type "zip", data := .fields #[.none, .bool false, .bool false, .ref (zH2 s.heap (sIt x t) o2).objs.size, .ref (zH3 s.heap (sIt x t) o2).objs.size] }
  have g5 : (zH5 s.heap (sIt x t) o2).get? (zH4 s.heap (sIt x t) o2).objs.size = some _ := Heap.get?_push_size _ rfl
  show _ ∧ _
  refine ⟨⟨_, g5, rfl⟩, ?_⟩
  have e : (((zH4 s.heap (sIt x t) o2).objs.size, ({ cls := .type "zip", data := .fields #[.none, .bool false, .bool false, .ref (zH2 s.heap (sIt x t) o2).objs.size, .ref (zH3 s.heap (sIt x t) o2).objs.size] } : Obj)) :: ((zH3 s.heap (sIt x t) o2).objs.size, ({ cls := .type "tuple", data := .seq #[.none, .none] } : Obj)) ::
      ((zH2 s.heap (sIt x t) o2).objs.size, ({ cls := .type "tuple", data := .seq #[.ref s.heap.objs.size, .ref (s.heap.push (sIt x t)).objs.size] } : Obj)) :: ((s.heap.push (sIt x t)).objs.size, o2) :: (s.heap.objs.size, sIt x t) :: news) = zipOwn s.heap.objs.size (sIt x t) o2 .none .none ++ news := by
    rw [z4, z3, z2, z1]
    rfl
  show Q (.ref (zH4 s.heap (sIt x t) o2).objs.size) _
  rw [z4]
  refine h (zH5 s.heap (sIt x t) o2) s.heap.objs.size (((((F.push _).push _).push _).push _).push _) ?_ fun p hp => Heap.lt_size (N p hp).1
  rw [← e]
  exact n5
theorem zipFeedAt {elts : List Expr} {k} {pos : Pos} {b n1 n2 : Nat} {P1 P2 : Nat → Value → Prop} {SO1 SO2 : Nat → Obj → Prop} {rd1 rd2 : List (Addr × Obj)} {o1 o2 : Obj} {s₀ : Shared} {J : (Str → Option Value) → List (Addr × Obj) → Prop} {N2 : List (Addr × Obj)}
    (D1 : Sub prog w A.in1 b n1 P1 SO1 rd1) (D2 : Sub prog w A.in1 (b + 1) n2 P2 SO2 rd2) (hs : ∃ h tk, s = { s₀ with heap := h, toks := tk }) (F : Fr h₀ L s.heap m) (N : News h₀ L s.heap N2) (hz : ∀ p ∈ zipOwn b o1 o2 .none .none, p ∈ N2) (hN : ∀ p ∈ news, p ∈ N2)
    (s1 : SO1 0 o1) (s2 : SO2 0 o2) (r1 : ∀ p ∈ rd1, p ∈ news) (r2 : ∀ p ∈ rd2, p ∈ news) (lt : ∀ p ∈ news, p.1 < b) (hJ : J m news) :
    wpAny (model prog w) A (pyIter (.ref (b + 4))) (FeedAt prog w A h₀ L (.Tuple elts k pos) (min n1 n2) (ZipItem P1 P2) (fun news => (∀ p ∈ rd1, p ∈ news) ∧ ∀ p ∈ rd2, p ∈ news) J s₀) E s := by
  obtain ⟨h, tk, rfl⟩ := hs
  refine wpAny_pyIter_zip (N _ (hz _ zm4)).1 ?_
  refine ⟨_, _, zipOwn b o1 o2 .none .none, _, _, m, news, rfl, zip_feed D1 D2 (fun p hp => lt p (r1 p hp)) (fun p hp => lt p (r2 p hp)), rfl, ⟨_, _, _, _, rfl, s1, s2⟩, F, fun p hp => N p ((List.mem_append.mp hp).elim (hz p) (hN p)), fun p hp q hq => ?_, ⟨r1, r2⟩, hJ⟩
  have l9 : @LT.lt Nat _ q.1 b := lt q hq
  simp only [zipOwn, List.mem_cons, List.not_mem_nil, or_false] at hp
  rcases hp with rfl | rfl | rfl | rfl | rfl <;> k_extra "mine adr"
end

theorem offOfLt {l X : List (Addr × Obj)} {B D : Addr} (h : ∀ p ∈ X, p.1 < B) (hs : ∀ p ∈ l, p ∈ X) (hBD : @LE.le Nat _ B D) : ∀ p ∈ l, p.1 ≠ D := by
  intro p hp
  have q : @LT.lt Nat _ p.1 B := h p (hs p hp)
  show @Ne Nat _ _
  omega
theorem allLtMem {B : Nat} {l : List (Addr × Obj)} (h : AllLt B l) : ∀ p ∈ l, @LT.lt Nat _ p.1 B := by
  induction l with
  | nil => intro p hp; cases hp
  | cons q l ih =>
    intro p hp
    rcases List.mem_cons.mp hp with rfl | hp
    · exact h.1
    · exact ih h.2 p hp
theorem offOfAll {l : List (Addr × Obj)} {B : Nat} {D : Addr} (h : AllLt B l) (hBD : @LE.le Nat _ B D) : ∀ p ∈ l, p.1 ≠ D := by
  intro p hp
  have q := allLtMem h p hp
  show @Ne Nat _ _
  omega
theorem kw17 : True := by
  k_with "mine m" => first | assumption | exact List.mem_cons_self | (refine List.mem_cons_of_mem _ ?_; k_extra "mine m")
  exact True.intro
theorem kw18 : True := by
  k_with "mine sub" => (intro p hp; k_extra "mine m")
  exact True.intro
theorem subCons {l X : List (Addr × Obj)} {q : Addr × Obj} (h1 : q ∈ X) (h2 : ∀ p ∈ l, p ∈ X) : ∀ p ∈ q :: l, p ∈ X := by
  intro p hp
  rcases List.mem_cons.mp hp with rfl | hp
  · exact h1
  · exact h2 p hp
theorem kw19 : True := by
  k_with "mine subs" => first | exact List.forall_mem_nil _ | k_extra "mine sub" | (refine subCons ?_ ?_; k_extra "mine m"; k_extra "mine subs")
  exact True.intro
theorem belowOfLt {l X : List (Addr × Obj)} {B D : Addr} (h : ∀ p ∈ X, p.1 < B) (hs : ∀ p ∈ l, p ∈ X) (hBD : @LE.le Nat _ B D) : ∀ p ∈ l, p.1 < D := by
  intro p hp
  have q : @LT.lt Nat _ p.1 B := h p (hs p hp)
  show @LT.lt Nat _ _ _
  omega
theorem belowOfAll {l : List (Addr × Obj)} {B : Nat} {D : Addr} (h : AllLt B l) (hBD : @LE.le Nat _ B D) : ∀ p ∈ l, p.1 < D := by
  intro p hp
  have q := allLtMem h p hp
  show @LT.lt Nat _ _ _
  omega
theorem belowCons {l : List (Addr × Obj)} {q : Addr × Obj} {D : Addr} (h1 : @LT.lt Nat _ q.1 D) (h2 : ∀ p ∈ l, p.1 < D) : ∀ p ∈ q :: l, p.1 < D := by
  intro p hp
  rcases List.mem_cons.mp hp with rfl | hp
  · exact h1
  · exact h2 p hp
/-- goals `∀ p ∈ l, p.1 ≠ D` and `∀ p ∈ l, p.1 < D` of a ledger's unwritten tail, from any hypothesis at hand -/
theorem kw20 : True := by
  k_with "mine lt" => ((with_reducible rename (∀ p ∈ (_ : List (Addr × Obj)), p.1 < _) => hmine); (first | exact offOfLt hmine (by k_extra "mine sub") (by omega) | exact belowOfLt hmine (by k_extra "mine sub") (by omega) | (clear hmine; k_extra "mine lt")))
  exact True.intro
theorem kw21 : True := by
  k_with "mine lta" => ((with_reducible rename (AllLt _ _) => hmine); (first | exact offOfAll hmine (by omega) | exact belowOfAll hmine (by omega) | (clear hmine; k_extra "mine lta")))
  exact True.intro
theorem kw22 : True := by
  k_with "mine and" => ((with_reducible rename (_ ∧ _) => hmine); (obtain ⟨hmine1, hmine2⟩ := hmine); (first | exact hmine1 | exact hmine2 | exact offOfLt hmine1 (by k_extra "mine sub") (by omega) | exact offOfLt hmine2 (by k_extra "mine sub") (by omega) | exact offOfAll hmine1 (by omega) | exact offOfAll hmine2 (by omega) | exact belowOfLt hmine1 (by k_extra "mine sub") (by omega) | exact belowOfLt hmine2 (by k_extra "mine sub") (by omega) | exact belowOfAll hmine1 (by omega) | exact belowOfAll hmine2 (by omega) | k_extra "mine and"))
  exact True.intro
theorem kw23 : True := by
  k_with "mine all" => first | with_reducible assumption | k_extra "mine lt" | k_extra "mine lta" | k_extra "mine and"
  exact True.intro
/-- the same for a ledger with written entries ahead -/
theorem kw24 : True := by
  k_with "mine below" => first | exact List.forall_mem_nil _ | k_extra "mine all" | (refine belowCons ?_ ?_; (first | omega | (show @LT.lt Nat _ _ _; omega)); k_extra "mine below")
  exact True.intro
local macro_rules | `(tactic| k_all) => `(tactic| k_extra "mine all")

/-- a contract whose call may draw (a set's pop, where the world goes by the text) -/
def ConD (w : World) (p : Program) (loose : List Str) (mean : ExcName → Option Value) (mg mb : Str → Option Value) (dn un0 : Nat) (f : Addr) (args : List Value) (kw : List (Str × Value)) (nIn : List (Addr × Obj)) (Post : Value → List (Addr × Obj) → Prop) : Prop :=
  ∀ (dp un : Nat) (gd : Option (List Code)) (cn : Str) (cs : Scope) (a : Addr) (ccd : Value) (cl : List (Str × Addr)) (outer : List Env) (A₀ : Around) (base h₀ : Heap) (L : Addr) (m : Str → Option Value) (s : Shared) (Q E : Value → Shared → Prop),
    Below A₀ base outer h₀ → Fr h₀ L s.heap m → (Mine.hk.heap_1 (World.params w)).In h₀ → News h₀ L s.heap nIn → Top p loose mean mg mb h₀ → cs.kind = .function → dp + dn < recursionLimit → un + un0 < cLine →
    (∀ v nOut h' tk' dr', Post v nOut → Fr h₀ L h' m → News h₀ L h' nOut → Q v { s with heap := h', toks := tk', drawn := dr' }) →
    wpAny (model Pg w) (ktrTop dp un gd cn cs L a ccd cl outer) (call (.ref f) args kw) Q E s
theorem ConD.use {w : World} {p : Program} {loose : List Str} {mean : ExcName → Option Value} {mg mb : Str → Option Value} {dn un0 : Nat} {f : Addr} {args : List Value} {kw : List (Str × Value)} {nIn : List (Addr × Obj)} {Post : Value → List (Addr × Obj) → Prop}
    {dp un : Nat} {gd : Option (List Code)} {cn : Str} {cs : Scope} {a : Addr} {ccd : Value} {cl : List (Str × Addr)} {outer : List Env} {A₀ : Around} {base h₀ : Heap} {L : Addr} {m : Str → Option Value} {s : Shared} {Q E : Value → Shared → Prop}
    (C : ConD w p loose mean mg mb dn un0 f args kw nIn Post) (B : Below A₀ base outer h₀) (F : Fr h₀ L s.heap m) (X : (Mine.hk.heap_1 (World.params w)).In h₀) (N : News h₀ L s.heap nIn) (T : Top p loose mean mg mb h₀) (hk : cs.kind = .function) (hd : dp + dn < recursionLimit) (hu : un + un0 < cLine)
    (ret : ∀ v nOut h' tk' dr', Post v nOut → Fr h₀ L h' m → News h₀ L h' nOut → Q v { s with heap := h', toks := tk', drawn := dr' }) :
    wpAny (model Pg w) (ktrTop dp un gd cn cs L a ccd cl outer) (call (.ref f) args kw) Q E s := C _ _ _ _ _ _ _ _ _ _ _ _ _ _ _ _ _ B F X N T hk hd hu ret
section
variable {prog : Program} {w : World} {A : Around} {E : Value → Shared → Prop} {s : Shared} {h₀ : Heap} {L sa : Addr} {m : Str → Option Value} {news : List (Addr × Obj)} {g : Obj → List (Addr × Obj)} {so : Obj}
theorem choose_one {src : Source} {Q : Nat → Shared → Prop} {M : Model} (h : ∀ dr, Q 0 { s with drawn := dr }) : wpAny M A (choose src 1) Q E s := by
  intro Γ p _
  show Sem.wp M Γ (.choose src 1 .pure) _ _ p s
  rw [Sem.wp_choose]
  refine ⟨by decide, ?_⟩
  rw [Nat.mod_one]
  rw [Sem.wp_pure]
  exact h _
theorem popOne {S : Int → Bool} {k : Int} {Q : Option Value → Shared → Prop} (F : Fr h₀ L s.heap m) (N : News h₀ L s.heap news) (U : UpdF sa so news g) (hso : so.SetObjOf (PySem.intKind prog w) S 1) (hS : ∀ x, S x = true → x = k)
    (h : ∀ h' so' t dr, Fr h₀ L h' m → News h₀ L h' (g so') → so'.SetObjOf (PySem.intKind prog w) (fun _ => false) 0 → Q (some (.int k t)) { s with heap := h', drawn := dr }) :
    wpAny (model prog w) A (setPop sa) Q E s := by
  obtain ⟨pre, post, rfl, hg, a, b⟩ := U.split
  have hm := N (sa, so) (List.mem_append_right _ (.head _))
  obtain ⟨hex, es, ep, t, hd, hel, hmem, hn, hf⟩ := hso
  unfold setPop
  refine wpAny_bind (wpAny_setState_of hm.1 hd hf ?_)
  dsimp only
  have hpl : t.place.size = 1 := by
    simp only [SetTable.fits, Bool.and_eq_true, beq_iff_eq, decide_eq_true_eq] at hf
    rw [hf.1, hn]
  have hlt : (if SetTable.below t.place (t.finger % (t.mask + 1)) < t.place.size then SetTable.below t.place (t.finger % (t.mask + 1)) else 0) = 0 := by
    rw [hpl]; split <;> omega
  have hpp : t.popPlace = some 0 := by
    unfold SetTable.popPlace
    have : t.place.isEmpty = false := by simp [Array.isEmpty, hpl]
    rw [this, if_neg Bool.false_ne_true]
    dsimp only
    rw [hlt]
  rw [hpp]
  dsimp only
  obtain ⟨e, he⟩ : ∃ e, es = #[e] := by
    obtain ⟨l⟩ := es
    match l, hn with
    | [e], _ => exact ⟨e, rfl⟩
  subst he
  obtain ⟨⟨k1, hk1, _⟩, _⟩ := hel e (by simp)
  have hkk : k1 = k := hS k1 ((hmem k1).mpr ⟨e, by simp, hk1⟩)
  subst hkk
  obtain ⟨tk, hv⟩ := Value.isInt_shape hk1
  have fin : ∀ dr, wpAny (model prog w) A (do
      let some (_, x) := (#[e] : Array (Int × Value))[0]? | unsupported "internal:set.pop"
      storeSet sa (SetTable.eraseAt #[e] 0) (t.popped 0)
      return some x) Q E { s with drawn := dr } := by
    intro dr
    have hfit : (t.popped 0).fits (SetTable.eraseAt #[e] 0).size = true := by
      have hf2 : t.fill ≤ t.mask := by
        simp only [SetTable.fits, Bool.and_eq_true, beq_iff_eq, decide_eq_true_eq] at hf
        exact hf.2
      unfold SetTable.fill at hf2
      obtain ⟨j, hj⟩ : ∃ j, t.place = #[j] := by
        obtain ⟨mask, ⟨l⟩, d, f, ld, mv, pl⟩ := t
        match l, hpl with
        | [j], _ => exact ⟨j, rfl⟩
      have hz : (SetTable.eraseAt #[e] 0).size = 0 := by simp [SetTable.eraseAt]
      rw [hz]
      simp only [SetTable.fits, SetTable.popped, SetTable.drop, SetTable.fill, hj, Bool.and_eq_true, beq_iff_eq, decide_eq_true_eq]
      rw [hj] at hf2
      refine ⟨by simp [SetTable.eraseAt], ?_⟩
      simp [SetTable.eraseAt, SetTable.insertAt] at hf2 ⊢
      omega
    refine wpAny_bind (wpAny_storeSet_of (s := { s with drawn := dr }) hm.1 hd (wpAny_pure ?_) (by show (0:Nat) ≤ _; omega))
    rw [hv]
    obtain ⟨_, hS'⟩ := SetOf_store (knd := PySem.intKind prog w) (S' := fun _ => false) hm.1 hex hd (es' := SetTable.eraseAt #[e] 0) (t' := t.popped 0) (fun e he => by simp [SetTable.eraseAt] at he) (fun k => by simp [SetTable.eraseAt]) (by show (0 : Nat) < _; decide) hfit
    obtain ⟨so', ho', hso'⟩ := hS'.objOf
    have hsb := Heap.SameBut.update s.heap sa (Obj.putSet (SetTable.eraseAt #[e] 0) (t.popped 0))
    exact h _ so' tk dr (F.change hsb hm.2.1 hm.2.2) (hg so' ▸ N.setIn a b hsb ho') hso'
  unfold setsByText
  refine wpAny_bind (wpAny_bind (wpAny_bind (wpAny_askSetting (wpAny_pure ?_))))
  refine wpAny_pure ?_
  split
  · refine wpAny_bind (wpAny_mono (choose_one (Q := fun i s' => i = 0 ∧ ∃ dr, s' = { s with drawn := dr }) fun dr => ⟨rfl, dr, rfl⟩) (fun i s' h' => ?_) fun _ _ e => e)
    obtain ⟨rfl, dr, rfl⟩ := h'
    exact fin dr
  · refine wpAny_bind (wpAny_of_eq (a := ()) ?_ ?_)
    · show (if (!t.led && decide ((#[e] : Array (Int × Value)).size > 1)) = true then unsupported "set:maker-not-led" else pure ()) = pure ()
      simp
    · exact wpAny_bind (wpAny_pure (fin s.drawn))
end

theorem noBool_set : typeLookup (.type "set") "__bool__" = pure none := by rw [typeLookup_type, builtinLookup_eq_fast]; kernel_rfl
section
variable {prog : Program} {w : World} {A : Around} {E : Value → Shared → Prop} {s : Shared} {h₀ : Heap} {L sa : Addr} {m : Str → Option Value} {news : List (Addr × Obj)} {g : Obj → List (Addr × Obj)} {so : Obj}
theorem truthySet {S : Int → Bool} {n : Nat} {Q : Bool → Shared → Prop} (N : News h₀ L s.heap news) (U : UpdF sa so news g) (hso : so.SetObjOf (PySem.intKind prog w) S n) (hfit : n < 100) (h : ∀ k, Q (n != 0) { s with toks := k }) :
    wpAny (model prog w) A (truthy (.ref sa)) Q E s := by
  obtain ⟨pre, post, rfl, hg, a, b⟩ := U.split
  have hm := N (sa, so) (List.mem_append_right _ (.head _))
  obtain ⟨hex, es, ep, t, hd, hel, hmem, hn, hf⟩ := hso
  have hT : s.TypeIs (.ref sa) "set" := ⟨so, hm.1, hex.1⟩
  have hfit' : (es.size : Int) < 2 ^ 63 := by omega
  have hne : ((es.size : Int) != 0) = (n != 0) := by
    rw [hn]
    by_cases e : n = 0
    · subst e; rfl
    · rw [bne_iff_ne.mpr e, bne_iff_ne.mpr (by omega)]
  have key : wpAny (model prog w) A (runValue (.builtin "len" ⟨[.ref sa], []⟩)) (fun r s' => r = .int es.size (s.toks + 1) ∧ Q (n != 0) s') E s := by
    refine wpAny_runValue (codeAny_builtin entry_len ?_)
    rw [Around.under_plainId plain_len _]
    exact wpAny_mono (wpAny_len_body_set (Q := fun r s' => r = .int es.size (s.toks + 1) ∧ Q (n != 0) s') hm.1 hex hd hf hfit' ⟨rfl, h _⟩)
      (fun fin s' h' => by obtain ⟨r, rfl, hq⟩ := h'; exact hq) fun _ _ e => e
  unfold truthy
  first
    | refine wpAny_bind (wpAny_callSpecial?_none (name := Str.ofString "__bool__") hT noBool_set ?_)
    | refine wpAny_bind (wpAny_pure (wpAny_bind (wpAny_callSpecial?_none (name := Str.ofString "__bool__") hT noBool_set ?_)))
  first
    | refine wpAny_bind (wpAny_specialOf (name := Str.ofString "__len__") hT PySem.F.slot_set_len.lookup ?_)
    | refine wpAny_bind (wpAny_pure (wpAny_bind (wpAny_specialOf (name := Str.ofString "__len__") hT PySem.F.slot_set_len.lookup ?_)))
  first
    | exact wpAny_bind (wpAny_mono key (fun r s' h' => by obtain ⟨rfl, hq⟩ := h'; exact wpAny_pure (hne ▸ hq)) fun _ _ e => e)
    | exact wpAny_bind (wpAny_pure (wpAny_bind (wpAny_mono key (fun r s' h' => by obtain ⟨rfl, hq⟩ := h'; exact wpAny_pure (hne ▸ hq)) fun _ _ e => e)))
theorem popMethod {S : Int → Bool} {n : Nat} {pl : Sem Bool} {Q : Value × List Value → Shared → Prop} (N : News h₀ L s.heap news) (U : UpdF sa so news g) (hso : so.SetObjOf (PySem.intKind prog w) S n) (hb : n < scanBound) (h : Q (.builtin "set.pop", [.ref sa]) s) :
    wpAny (model prog w) A (getMethod (.ref sa) "pop" pl) Q E s := by
  obtain ⟨pre, post, rfl, _, _, _⟩ := U.split
  have hS := hso.setOf (N _ (List.mem_append_right _ (.head _))).1 hb
  exact getMethod_builtin hS.typeIs PySem.F.plainAttrs_set PySem.F.slot_set_pop PySem.F.type_set_pop hS.noDict h
theorem popCall {S : Int → Bool} {k : Int} {Q : Value → Shared → Prop} (F : Fr h₀ L s.heap m) (N : News h₀ L s.heap news) (U : UpdF sa so news g) (hso : so.SetObjOf (PySem.intKind prog w) S 1) (hS : ∀ x, S x = true → x = k)
    (h : ∀ h' so' t dr, Fr h₀ L h' m → News h₀ L h' (g so') → so'.SetObjOf (PySem.intKind prog w) (fun _ => false) 0 → Q (.int k t) { s with heap := h', drawn := dr }) :
    wpAny (model prog w) A (call (.builtin "set.pop") [.ref sa]) Q E s := by
  obtain ⟨pre, post, e, _, _, _⟩ := U.split
  have hT : s.TypeIs (.ref sa) "set" := ⟨so, (N (sa, so) (by rw [e]; exact List.mem_append_right _ (.head _))).1, hso.1.1⟩
  refine wpAny_call_entry PySem.F.slot_set_pop hT PySem.F.entry_set_pop ?_ (PySem.F.args_set_pop_1 _)
  unfold Builtin.«set.pop» Builtin.Frozenset.noArgs
  simp only [List.isEmpty_nil, bind_assoc]
  unfold Builtin.Frozenset.addrOf
  refine wpAny_bind (wpAny_pure ?_)
  try dsimp only
  try refine wpAny_bind (wpAny_pure ?_)
  try dsimp only
  refine wpAny_bind (popOne F N U hso hS fun h' so' t dr F' N' hs' => ?_)
  exact wpAny_pure ⟨_, rfl, h h' so' t dr F' N' hs'⟩
end
theorem kw25 : True := by
  k_with "truthy ref" => (k_here; kse_here; k_dflt (refine truthySet (by k_asm) (by k_updF) (by k_asm) (by decide) ?_); intro tk'; (try simp only [bne_self_eq_false, show ((1 : Nat) != 0) = true from rfl]))
  exact True.intro
theorem kw26 : True := by
  k_with "getMethod ref" => (k_here; kse_here; (with_reducible show wpAny _ _ (getMethod (Value.ref _) (Str.ofString "pop") _) _ _ _); k_dflt (refine popMethod (by k_asm) (by k_updF) (by k_asm) (by kse_small) ?_))
  exact True.intro
theorem kw27 : True := by
  k_with "call builtin:set.pop" => (k_here; kse_here; (with_reducible show wpAny _ _ (call (Value.builtin "set.pop") [Value.ref _]) _ _ _); k_dflt (refine popCall (by k_asm) (by k_asm) (by k_updF) (by k_asm) (by (intro x hx; exact of_decide_eq_true (by simpa using hx))) ?_); intro h' o' t' dr' F' N' hs'; (try dsimp only at N'); (try dsimp only))
  exact True.intro
theorem replaceNone {prog : Program} {w : World} {A : Around} {E : Value → Shared → Prop} {s : Shared} {x y z : Str} {t u v : Tok} {Q : Value → Shared → Prop} (ho : (Builtin.Str.occurrences x y 0 x.length (x.length + 1)).isEmpty = true)
    (hq : Q (.str x t) s) : wpAny (model prog w) A (call (.builtin "str.replace") [.str x t, .str y u, .str z v]) Q E s := by
  have hc : ((Builtin.Str.occurrences x y 0 x.length (x.length + 1)).isEmpty || (y.length == 0 && z.length == 0)) = true := by rw [ho]; rfl
  refine call_gives PySem.F.slot_str_replace (typeIs_str _ _ _) PySem.F.entry_str_replace (PySem.F.args_str_replace_3 _ _ _) (gives_str_replace x y z t u v fun h => by rw [hc] at h; cases h) ?_
  rw [if_pos hc]
  exact hq
theorem kw28 : True := by
  k_with "call builtin:str.replace" => (k_here; (with_reducible show wpAny _ _ (call (Value.builtin _) [Value.str _ _, Value.str _ _, Value.str _ _]) _ _ _); k_dflt (refine replaceNone (by first | assumption | rfl | decide +kernel) ?_))
  exact True.intro
theorem cp_con {w p loose mean mg mb} {nIn : List (Addr × Obj)} {n : Int} {t1 t2 t3 : Tok} (hn : n ≤ 3) :
    ConD w p loose mean mg mb 2 30 46 [.int n t1, .int 5 t2, .int 2048 t3] [] nIn (fun r nOut => (∃ a, r = .ref a) ∧ nOut = nIn) := by
  unfold ConD
  intro dp un gd cn cs a ccd cl outer A₀ base h₀ L m s Q E B F X N T hk hd hu hret
  refine wpAny_call ?_
  refine' code_defM [(Str.ofString "show", .bool false), (Str.ofString "more_than", .int 2048 t3), (Str.ofString "base", .int 5 t2), (Str.ofString "w", .int n t1)] ?k1 ?k2 ?k3 ?k4 ?k5 ?kA ?kF ?kK ?k6 ?k7 ?k8 ?k9 ?kR ?kB ?_ ?c2 ?c3 ?c4 ?c5
  walk_at "mine sides"
  k_steps
  rename News h₀ L _ _ => N9
  exact hret _ _ _ _ _ ⟨⟨_, rfl⟩, rfl⟩ (by k_asm) (newsSub N9 (by k_extra "mine sub"))
local macro_rules | `(tactic| walk_at "call ref") => `(tactic| (k_here; (with_reducible show wpAny _ _ (call (Value.ref 46) _ _) _ _ _); k_dflt (refine' ConD.use ?C ?B ?F ?X ?N ?T ?hk ?hd ?hu ?_; (case B => k_asm); (case F => k_asm); (case X => k_asm); (case N => k_asm); (case T => k_asm); (case hk => first | exact rfl | assumption); (case C => exact cp_con (by first | decide | omega)); (case hd => ktr_room); (case hu => ktr_units); k_whole); intro v' nOut' h' tk' dr' hpost F' N'; obtain ⟨⟨a', e'⟩, e''⟩ := hpost; subst e'; subst e''; (try dsimp only); (try k_sweep)))
theorem codeHdOf {K : Frag} {h : Heap} {c P : Addr} {cl : Value} {d : Option Addr} {vs : Array Value} {sl : Array (Option Value)} {file : Str} {tf : Tok} {flags : Int} {tg : Tok} {inF : Bool} {text : Int} {tt : Tok} (X : K.In h) (e : K.lookup c = some ⟨cl, d, .fields vs, sl⟩) (f1 : cl = .type "code") (f3 : vs[11]? = some (.ref P)) (f4 : vs.getD 11 .none = .ref P) (f5 : vs.getD 18 .none = .str file tf)
    (f6 : vs.getD 7 .none = .int flags tg) (f7 : vs.getD 9 .none = .bool inF) (f8 : vs.getD 10 .none = .int text tt) (hne : c ≠ P) : CodeHd h c P := ⟨_, _, _, _, _, _, _, _, _, X _ _ e, f1, rfl, f3, f4, f5, f6, f7, f8, hne⟩
theorem head48 {w : World} {h : Heap} (X : (Mine.hk.heap_1 (World.params w)).In h) : CodeHd h 52 48 := by
  refine' codeHdOf X ?e ?f1 ?f3 ?f4 ?f5 ?f6 ?f7 ?f8 ?f9
  case e => k_is
  case f1 => rfl
  case f3 => rfl
  case f4 => rfl
  case f5 => rfl
  case f6 => rfl
  case f7 => rfl
  case f8 => rfl
  case f9 => decide
local macro_rules | `(tactic| walk_at "call ref") => `(tactic| (k_here; kn_here; k_dflt (refine wpAny_call ?_; refine' code_nest ?k1 ?k2 ?k3 ?k4 ?k5 ?kA ?kF ?kK ?k6 ?k7 ?k8 ?k9 ?kB ?_ ?c2 ?c3 ?c4 ?c5; (case kA => exact rfl); (case kF => exact rfl); (case kK => exact rfl); (case k1 => k_asm); (case k2 => k_asm); (case k3 => k_asm); (case k4 => k_asm); (case k5 => k_asm); (case k6 => k_mem); (case k7 => exact codeRec_news (by k_asm) (by k_mem) (by assumption) (by assumption)); (case k8 => ktr_room); (case k9 => exact BindsTo.of_eq rfl); (case c5 => decide); (case kB => exact locs rfl); (case c2 => exact rfl); (case c3 => exact rfl); (case c4 => exact rfl); k_whole; intro g' L' h' FG' F' N' B' X' T'; (try dsimp only); (try k_lift B'); (try k_fold))))
def nums : List (Str × Int) := [(Str.ofString "2", 2), (Str.ofString "4", 4), (Str.ofString "8", 8), (Str.ofString "16", 16), (Str.ofString "32", 32), (Str.ofString "64", 64), (Str.ofString "128", 128)]
/-- a numeral of the law and the number it writes -/
def Num (x : Str) (v : Int) : Prop := (x, v) ∈ nums
theorem num_all {P : Str → Int → Prop} (h : ∀ q ∈ nums, P q.1 q.2) {x : Str} {v : Int} (hn : Num x v) : P x v := h (x, v) hn
theorem Num.rstrip {x : Str} {v : Int} (h : Num x v) : Txt.rstrip x = x := num_all (P := fun x _ => Txt.rstrip x = x) (by decide +kernel) h
theorem Num.occ {x : Str} {v : Int} (h : Num x v) : (Builtin.Str.occurrences x (Str.ofString "_") 0 x.length (x.length + 1)).isEmpty = true := num_all (P := fun x _ => (Builtin.Str.occurrences x (Str.ofString "_") 0 x.length (x.length + 1)).isEmpty = true) (by decide +kernel) h
theorem Num.slice {x : Str} {v : Int} (h : Num x v) : Txt.slice x (some 0) (some (x.length : Int)) = x := num_all (P := fun x _ => Txt.slice x (some 0) (some (x.length : Int)) = x) (by decide +kernel) h
theorem Num.text {x : Str} {v : Int} (h : Num x v) : PySem.intText? x = some v := num_all (P := fun x v => PySem.intText? x = some v) (by decide +kernel) h
theorem Num.len {x : Str} {v : Int} (h : Num x v) : x.length ≤ 3 := num_all (P := fun x _ => x.length ≤ 3) (by decide +kernel) h
/-- the table's text once `inner` was made, and the code object it was made with -/
abbrev grown48 (c : Addr) : Obj := tabObj (#[] ++ #[rawInt ((50 : Nat) : Int), rawInt ((4 : Nat) : Int), Value.ref c])
def Made48 (oc : Obj) : Prop := ∃ vs t, oc.data = .fields vs ∧ vs[1]? = some (.str (Str.ofString "_str_to_int_inner.<locals>.inner") t)
theorem kw29 : True := by
  k_with "call builtin:str.rstrip" => (k_here; (with_reducible show wpAny _ _ (call (Value.builtin "str.rstrip") [Value.str _ _]) _ _ _); (rename Txt.rstrip _ = _ => e9; refine KXw.rstrip e9 (by rw [sizeLine_eq]; omega) ?_); intro _ _)
  exact True.intro
theorem kw30 : True := by
  k_with "subscriptTail Name Slice str ref" => ((with_reducible show wpAny _ _ (subscriptTail _ (Expr.Slice (some _) (some _) none _) _ _) _ _ _); (rename Txt.slice _ _ _ = _ => e9); (with_reducible rename Fr _ _ _ _ => F'); (with_reducible rename News _ _ _ _ => N'); (refine slice_strN_ss (hsz := (by (rw [sizeLine_eq]; omega))) (s := ⟨_, _, _, _, _⟩) F' N' ?_); intro _ _ _ _ _; rw [e9])
  exact True.intro
theorem sti_first {w p loose mean mg mb} {rest : List (Addr × Obj)} {x : Str} {v : Int} {t : Tok} (hx : Num x v) (h48 : ∀ p ∈ rest, p.1 ≠ 48) :
    ConD w p loose mean mg mb 5 50 53 [.str x t] [] ((48, tabObj #[]) :: rest)
      (fun r nOut => (∃ t, r = .int v t) ∧ ∃ c oc, nOut = (c, oc) :: (48, grown48 c) :: rest ∧ Made48 oc ∧ ∀ p ∈ ((48, tabObj #[]) :: rest), p.1 < c) := by
  unfold ConD
  intro dp un gd cn cs a ccd cl outer A₀ base h₀ L m s Q E B F X N T hk hd hu hret
  refine wpAny_call ?_
  have h9a := hx.slice
  have h9b := hx.text
  have h9c := hx.len
  k_dflt (refine' code_defC ?k1 ?k2 ?k3 ?k4 ?k5 ?kA ?kF ?kK ?k6 ?k7 ?k8 ?k9 ?kB ?kD ?_ ?c2 ?c3 ?c4; (case kA => exact rfl); (case kF => exact rfl); (case kK => first | exact rfl | assumption); (case k1 => k_asm); (case k2 => k_asm); (case k3 => k_asm); (case k4 => k_asm); (case k5 => k_asm); (case k6 => k_is); (case k7 => k_is); (case k8 => ktr_room); (case k9 => first | exact BindsTo.of_eq rfl | exact binds_K (by k_in) rfl (by k_is) rfl rfl rfl | fail "k_enter: no rule for these arguments"); (case kB => exact rfl); (case kD => decide +kernel); (case c2 => exact rfl); (case c3 => exact rfl); (case c4 => exact rfl); k_whole; intro g' L' h' tk' cells' FG' F' N' Y' B' X' T' l1; k_cells Y'; (try simp only [List.cons_append, List.nil_append] at N'); (try dsimp only); (try k_lift B'); (try k_fold))
  clear B F N X T
  have hC9 := head48 X'
  k_lt l1
  k_steps
  refine leaveK_ (by k_asm) (by k_asm) fun kF kN => ?_
  refine' hret _ _ _ _ _ ⟨⟨_, rfl⟩, _, _, rfl, ⟨_, _, ?d1, ?d2⟩, ?lt⟩ kF (newsSub kN ?sub)
  case d1 => assumption
  case d2 => (rename (_[1]? = _) => e9; exact e9)
  case sub => k_extra "mine subs"
  case lt => k_extra "mine below"
theorem sti_hit {w p loose mean mg mb} {nIn : List (Addr × Obj)} {c : Addr} {oc : Obj} {x : Str} {v : Int} {t : Tok} (hx : Num x v) (h48 : (48, grown48 c) ∈ nIn) (hc : (c, oc) ∈ nIn) (hmade : Made48 oc) :
    ConD w p loose mean mg mb 5 50 53 [.str x t] [] nIn (fun r nOut => (∃ t, r = .int v t) ∧ nOut = nIn) := by
  unfold ConD
  intro dp un gd cn cs a ccd cl outer A₀ base h₀ L m s Q E B F X N T hk hd hu hret
  obtain ⟨vs9, t9, hd9, hv9⟩ := hmade
  refine wpAny_call ?_
  have h9a := hx.slice
  have h9b := hx.text
  have h9c := hx.len
  k_dflt (refine' code_defC ?k1 ?k2 ?k3 ?k4 ?k5 ?kA ?kF ?kK ?k6 ?k7 ?k8 ?k9 ?kB ?kD ?_ ?c2 ?c3 ?c4; (case kA => exact rfl); (case kF => exact rfl); (case kK => first | exact rfl | assumption); (case k1 => k_asm); (case k2 => k_asm); (case k3 => k_asm); (case k4 => k_asm); (case k5 => k_asm); (case k6 => k_is); (case k7 => k_is); (case k8 => ktr_room); (case k9 => first | exact BindsTo.of_eq rfl | exact binds_K (by k_in) rfl (by k_is) rfl rfl rfl | fail "k_enter: no rule for these arguments"); (case kB => exact rfl); (case kD => decide +kernel); (case c2 => exact rfl); (case c3 => exact rfl); (case c4 => exact rfl); k_whole; intro g' L' h' tk' cells' FG' F' N' Y' B' X' T' l1; k_cells Y'; (try simp only [List.cons_append, List.nil_append] at N'); (try dsimp only); (try k_lift B'); (try k_fold))
  clear B F N X T
  have hC9 := head48 X'
  k_steps
  refine leaveK_ (by k_asm) (by k_asm) fun kF kN => ?_
  exact hret _ _ _ _ _ ⟨⟨_, rfl⟩, rfl⟩ kF (newsSub kN (by k_extra "mine subs"))
theorem ConD.sub {w p loose mean mg mb dn un0 f args kw} {n1 nIn : List (Addr × Obj)} {P1 Post : Value → List (Addr × Obj) → Prop} (C : ConD w p loose mean mg mb dn un0 f args kw n1 P1) (h1 : ∀ q ∈ n1, q ∈ nIn) (h2 : ∀ r o1, P1 r o1 → ∃ o2, Post r o2 ∧ ∀ q ∈ o2, q ∈ o1) : ConD w p loose mean mg mb dn un0 f args kw nIn Post := by
  intro dp un gd cn cs a ccd cl outer A₀ base h₀ L m s Q E B F X N T hk hd hu hret
  refine C _ _ _ _ _ _ _ _ _ _ _ _ _ _ _ _ _ B F X (newsSub N h1) T hk hd hu fun v o1 h' tk' dr' hp F' N' => ?_
  obtain ⟨o2, hp2, hs⟩ := h2 v o1 hp
  exact hret v o2 h' tk' dr' hp2 F' (newsSub N' hs)
/-- the ledger's tail that holds the code table of `inner`, made or not -/
def TabZ (Z : List (Addr × Obj)) : Prop := (∃ z1 z2, Z = z1 ++ (48, tabObj #[]) :: z2 ∧ ∀ p ∈ z1 ++ z2, p.1 ≠ 48) ∨ ∃ c oc, (48, grown48 c) ∈ Z ∧ (c, oc) ∈ Z ∧ Made48 oc
/-- what a call leaves of the tail -/
structure Keeps (pre Z Z' : List (Addr × Obj)) : Prop where
  tab : TabZ Z'
  old : ∀ p ∈ Z, p.1 ≠ 48 → p ∈ Z'
  new : ∀ p ∈ Z', (∃ q ∈ Z, q.1 = p.1) ∨ ∀ q ∈ pre ++ Z, q.1 < p.1
theorem sti_Z {w p loose mean mg mb} {pre Z : List (Addr × Obj)} {x : Str} {v : Int} {t : Tok} (hx : Num x v) (hZ : TabZ Z) (hp : ∀ p ∈ pre, p.1 ≠ 48) :
    ConD w p loose mean mg mb 5 50 53 [.str x t] [] (pre ++ Z) (fun r nOut => (∃ t, r = .int v t) ∧ ∃ Z', nOut = pre ++ Z' ∧ Keeps pre Z Z') := by
  rcases hZ with ⟨z1, z2, rfl, h48⟩ | ⟨c, oc, h1, h2, h3⟩
  · have h48' : ∀ q ∈ pre ++ (z1 ++ z2), q.1 ≠ 48 := fun q hq => (List.mem_append.mp hq).elim (hp q) (h48 q)
    refine ConD.sub (sti_first (t := t) hx h48') (fun q hq => ?_) fun r o1 ⟨hr, c, oc, ho, hm, hlt⟩ => ?_
    · simp only [List.mem_cons, List.mem_append] at hq ⊢
      rcases hq with hq | hq | hq | hq <;> simp [hq]
    · refine ⟨pre ++ ((c, oc) :: (48, grown48 c) :: (z1 ++ z2)), ⟨hr, _, rfl, .inr ⟨c, oc, by simp, by simp, hm⟩, fun q hq hn => ?_, fun q hq => ?_⟩, fun q hq => ?_⟩
      · simp only [List.mem_cons, List.mem_append] at hq ⊢
        rcases hq with hq | rfl | hq
        · simp [hq]
        · exact absurd rfl hn
        · simp [hq]
      · simp only [List.mem_cons, List.mem_append] at hq
        rcases hq with rfl | rfl | hq | hq
        · refine .inr fun q hq => hlt q ?_
          simp only [List.mem_cons, List.mem_append] at hq ⊢
          rcases hq with hq | hq | hq | hq <;> simp [hq]
        · exact .inl ⟨(48, tabObj #[]), by simp, rfl⟩
        · exact .inl ⟨q, by simp [hq], rfl⟩
        · exact .inl ⟨q, by simp [hq], rfl⟩
      · rw [ho]
        simp only [List.mem_cons, List.mem_append] at hq ⊢
        rcases hq with hq | hq | hq | hq | hq <;> simp [hq]
  · refine ConD.sub (sti_hit (t := t) hx (nIn := pre ++ Z) (List.mem_append_right _ h1) (List.mem_append_right _ h2) h3) (fun q hq => hq) fun r o1 ⟨hr, ho⟩ => ?_
    subst ho
    exact ⟨pre ++ Z, ⟨hr, Z, rfl, .inr ⟨c, oc, h1, h2, h3⟩, fun q hq _ => hq, fun q hq => .inl ⟨q, hq, rfl⟩⟩, fun q hq => hq⟩
theorem kw31 : True := by
  k_with "call ref" => (k_here; (with_reducible show wpAny _ _ (call (Value.ref 53) _ _) _ _ _); (rename (∀ t : Tok, ConD _ _ _ _ _ _ _ _ 53 _ _ _ _) => c9); k_dflt (refine ConD.use (c9 _) (by k_asm) (by k_asm) (by k_asm) (by k_asm) (by k_asm) (by first | exact rfl | assumption) (by ktr_room) (by ktr_units) ?_; k_whole); intro v' nOut' h' tk' dr' hpost F' N'; (try dsimp only); (try k_sweep))
  exact True.intro
theorem ifs_con {w p loose mean mg mb} {nIn : List (Addr × Obj)} {x : Str} {v : Int} {t : Tok} {Post : Value → List (Addr × Obj) → Prop} (hx : Num x v) (C : ∀ t : Tok, ConD w p loose mean mg mb 5 50 53 [.str x t] [] nIn Post) :
    ConD w p loose mean mg mb 6 60 60 [.str x t] [] nIn Post := by
  unfold ConD
  intro dp un gd cn cs a ccd cl outer A₀ base h₀ L m s Q E B F X N T hk hd hu hret
  have h9a := hx.rstrip
  have h9b := hx.occ
  have h9c := hx.len
  refine wpAny_call ?_
  refine' code_defM [(Str.ofString "s", .str x t)] ?k1 ?k2 ?k3 ?k4 ?k5 ?kA ?kF ?kK ?k6 ?k7 ?k8 ?k9 ?kR ?kB ?_ ?c2 ?c3 ?c4 ?c5
  walk_at "mine sides"
  k_steps
  exact hret _ _ _ _ _ (by assumption) (by k_asm) (by k_asm)
/-- a ledger, its written entries and its tail -/
inductive SplitAt : List (Addr × Obj) → List (Addr × Obj) → List (Addr × Obj) → Prop
  | nil {Z} : SplitAt [] Z Z
  | cons {e pre Z l} : SplitAt pre Z l → SplitAt (e :: pre) Z (e :: l)
theorem SplitAt.eq {pre Z l : List (Addr × Obj)} (h : SplitAt pre Z l) : l = pre ++ Z := by
  induction h with
  | nil => rfl
  | cons _ ih => rw [ih]; rfl
theorem TabZ.at48 {Z : List (Addr × Obj)} (h : TabZ Z) : ∃ o, (48, o) ∈ Z := by
  rcases h with ⟨z1, z2, rfl, _⟩ | ⟨c, oc, h1, _⟩
  · exact ⟨tabObj #[], by simp⟩
  · exact ⟨_, h1⟩
theorem Keeps.apart {pre Z Z' : List (Addr × Obj)} (h : Keeps pre Z Z') {D : Addr} (hD : ∃ o, (D, o) ∈ pre) (ap : ∀ q ∈ Z, q.1 ≠ D) : ∀ q ∈ Z', q.1 ≠ D := by
  intro q hq
  rcases h.new q hq with ⟨q0, h0, e⟩ | hlt
  · rw [← e]; exact ap q0 h0
  · obtain ⟨o, ho⟩ := hD
    exact Nat.ne_of_gt (hlt (D, o) (List.mem_append_left _ ho))
theorem ifs_Z {w p loose mean mg mb} {pre Z l : List (Addr × Obj)} {x : Str} {v : Int} {t : Tok} (hx : Num x v) (hZ : TabZ Z) (hs : SplitAt pre Z l) (ap : ∀ p ∈ pre, ∀ q ∈ Z, q.1 ≠ p.1) :
    ConD w p loose mean mg mb 6 60 60 [.str x t] [] l (fun r nOut => (∃ t, r = .int v t) ∧ ∃ Z', nOut = pre ++ Z' ∧ Keeps pre Z Z') := by
  rw [hs.eq]
  obtain ⟨o, ho⟩ := hZ.at48
  exact ifs_con hx fun t => sti_Z hx hZ fun p hp e => ap p hp _ ho (by rw [e])
theorem kw32 : True := by
  k_with "mine split" => first | exact SplitAt.nil | (refine SplitAt.cons ?_; k_extra "mine split")
  exact True.intro

theorem head80 {w : World} {h : Heap} (X : (Mine.hk.heap_1 (World.params w)).In h) : CodeHd h 80 76 := by
  refine' codeHdOf X ?e ?f1 ?f3 ?f4 ?f5 ?f6 ?f7 ?f8 ?f9
  case e => k_is
  case f1 => rfl
  case f3 => rfl
  case f4 => rfl
  case f5 => rfl
  case f6 => rfl
  case f7 => rfl
  case f8 => rfl
  case f9 => decide
theorem head87 {w : World} {h : Heap} (X : (Mine.hk.heap_1 (World.params w)).In h) : CodeHd h 87 83 := by
  refine' codeHdOf X ?e ?f1 ?f3 ?f4 ?f5 ?f6 ?f7 ?f8 ?f9
  case e => k_is
  case f1 => rfl
  case f3 => rfl
  case f4 => rfl
  case f5 => rfl
  case f6 => rfl
  case f7 => rfl
  case f8 => rfl
  case f9 => decide
theorem kw33 : True := by
  k_with "binaryOp Mult ref int" => (k_here; (with_reducible show wpAny _ _ (binaryOp Operator.Mult (Value.ref _) (Value.int (Int.fdiv _ _) _)) _ _ _); (with_reducible rename (Int.fdiv (_ - _) _ = _) => e9); rw [e9]; clear e9)
  exact True.intro
theorem kw34 : True := by
  k_with "binaryOp LShift int int" => (k_here; with_reducible refine halt ?_)
  exact True.intro
theorem i2d_con {w p loose mean mg mb} {rest : List (Addr × Obj)} {a hi lo : Int} {t u : Tok} (ha0 : (a != 0) = true) (hfd : Int.fdiv (↑(Builtin.Int.intBits a) + 65 - 1) 65 = 2) (hsh : (Builtin.Int.intBits (Int.fdiv a (2 ^ 65)) : Int) + 65 ≤ 2 ^ 27) (hhi : Int.fdiv a (2 ^ 65) = hi) (hlo : Builtin.bitXor a (hi * 2 ^ 65) = lo) (h76 : ∀ p ∈ rest, p.1 ≠ 76) :
    ConD w p loose mean mg mb 5 50 81 [.int a t, .int 65 u] [] ((76, tabObj #[]) :: rest)
      (fun r nOut => ∃ D n t1 t2 ps, r = .ref D ∧ nOut = (D, W.listOf [Value.int lo t1, Value.int hi t2].toArray n) :: (76, tabObj ps) :: rest ∧ ∀ p ∈ (76, tabObj ps) :: rest, p.1 < D) := by
  unfold ConD
  intro dp un gd cn cs a9 ccd cl outer A₀ base h₀ L m s Q E B F X N T hk hd hu hret
  refine wpAny_call ?_
  k_dflt (refine' code_defC ?k1 ?k2 ?k3 ?k4 ?k5 ?kA ?kF ?kK ?k6 ?k7 ?k8 ?k9 ?kB ?kD ?_ ?c2 ?c3 ?c4; (case kA => exact rfl); (case kF => exact rfl); (case kK => first | exact rfl | assumption); (case k1 => k_asm); (case k2 => k_asm); (case k3 => k_asm); (case k4 => k_asm); (case k5 => k_asm); (case k6 => k_is); (case k7 => k_is); (case k8 => ktr_room); (case k9 => first | exact BindsTo.of_eq rfl | exact binds_K (by k_in) rfl (by k_is) rfl rfl rfl | fail "k_enter: no rule for these arguments"); (case kB => exact rfl); (case kD => decide +kernel); (case c2 => exact rfl); (case c3 => exact rfl); (case c4 => exact rfl); k_whole; intro g' L' h' tk' cells' FG' F' N' Y' B' X' T' l1; k_cells Y'; (try simp only [List.cons_append, List.nil_append] at N'); (try dsimp only); (try k_lift B'); (try k_fold))
  clear B F N X T
  have hC9 := head80 X'
  k_lt l1
  k_steps
  refine Halt.mk ?_
  refine lshift_int ?kbn ?kbs ?_
  case kbn => decide
  case kbs => exact hsh
  k_steps
  dsimp only
  rename News _ _ _ _ => N9
  have eS : Int.toNat ((Int.fdiv (0 + 2) (2 ^ Int.toNat 1) - 0) * 65) = 65 := by decide +kernel
  rw [eS, hhi, hlo] at N9
  refine leaveK_ (by k_asm) N9 fun kF kN => ?_
  refine' hret _ _ _ _ _ ⟨_, _, _, _, _, rfl, rfl, ?lt⟩ kF (newsSub kN ?sub)
  case sub => k_extra "mine subs"
  case lt => k_extra "mine below"
theorem d2i_con {w p loose mean mg mb} {rest : List (Addr × Obj)} {D : Addr} {n : Nat} {q : Int} {t u v : Tok} (h83 : ∀ p ∈ rest, p.1 ≠ 83) (hD : @Ne Nat D 83) :
    ConD w p loose mean mg mb 5 50 88 [.ref D, .int 65 v] [] ((83, tabObj #[]) :: (D, W.listOf [Value.int q t, Value.int 0 u].toArray n) :: rest)
      (fun r nOut => ∃ q0 t0 ps, r = .int q0 t0 ∧ nOut = (83, tabObj ps) :: (D, W.listOf [Value.int q t, Value.int 0 u].toArray n) :: rest) := by
  unfold ConD
  intro dp un gd cn cs a9 ccd cl outer A₀ base h₀ L m s Q E B F X N T hk hd hu hret
  refine wpAny_call ?_
  k_dflt (refine' code_defC ?k1 ?k2 ?k3 ?k4 ?k5 ?kA ?kF ?kK ?k6 ?k7 ?k8 ?k9 ?kB ?kD ?_ ?c2 ?c3 ?c4; (case kA => exact rfl); (case kF => exact rfl); (case kK => first | exact rfl | assumption); (case k1 => k_asm); (case k2 => k_asm); (case k3 => k_asm); (case k4 => k_asm); (case k5 => k_asm); (case k6 => k_is); (case k7 => k_is); (case k8 => ktr_room); (case k9 => first | exact BindsTo.of_eq rfl | exact binds_K (by k_in) rfl (by k_is) rfl rfl rfl | fail "k_enter: no rule for these arguments"); (case kB => exact rfl); (case kD => decide +kernel); (case c2 => exact rfl); (case c3 => exact rfl); (case c4 => exact rfl); k_whole; intro g' L' h' tk' cells' FG' F' N' Y' B' X' T' l1; k_cells Y'; (try simp only [List.cons_append, List.nil_append] at N'); (try dsimp only); (try k_lift B'); (try k_fold))
  clear B F N X T
  have hC9 := head87 X'
  k_lt l1
  k_steps
  refine Halt.mk ?_
  refine lshift_int ?kbn ?kbs ?_
  case kbn => decide
  case kbs => decide
  k_steps
  (try dsimp only)
  rename News _ _ _ _ => N9
  refine leaveK_ (by k_asm) N9 fun kF kN => ?_
  refine' hret _ _ _ _ _ ⟨_, _, _, rfl, rfl⟩ kF (newsSub kN ?sub)
  case sub => k_extra "mine subs"
theorem kw35 : True := by
  k_with "call ref" => (k_here; (with_reducible show wpAny _ _ (call (Value.ref 81) _ _) _ _ _); with_reducible refine halt ?_)
  exact True.intro
theorem kw36 : True := by
  k_with "call ref" => (k_here; (with_reducible show wpAny _ _ (call (Value.ref 88) _ _) _ _ _); with_reducible refine halt ?_)
  exact True.intro
theorem offI_of {I : Addr} {it : Obj} {l : List (Addr × Obj)} (h : ∀ p ∈ l, p.1 < I) : OffI I it l := by
  induction l with
  | nil => exact True.intro
  | cons q l ih => exact ⟨.inl (Nat.ne_of_lt (h q (.head _))), ih fun p hp => h p (.tail _ hp)⟩
theorem div_con {w p loose mean mg mb} {nIn : List (Addr × Obj)} {x b : Int} {t u v : Tok} (hb : b ≠ 0) (hs : (↑(Builtin.Int.intBits x) : Int) - 65 ≤ 4000) (hp : Builtin.divisionGoesByPylong x b = false) :
    Con w p loose mean mg mb 3 40 67 [.int x t, .int b u, .int 65 v] [] nIn (fun r nOut => ∃ T t1 t2, r = .ref T ∧ nOut = (T, pairObj (.int (x.fdiv b) t1) (.int (x.fmod b) t2)) :: nIn ∧ ∀ p ∈ nIn, p.1 < T) := by
  unfold Con
  intro dp un gd cn cs a ccd cl outer A₀ base h₀ L m s Q E B F X N T hk hd hu hret
  refine wpAny_call ?_
  refine' code_defM [(Str.ofString "n", .int 65 v), (Str.ofString "b", .int b u), (Str.ofString "a", .int x t)] ?k1 ?k2 ?k3 ?k4 ?k5 ?kA ?kF ?kK ?k6 ?k7 ?k8 ?k9 ?kR ?kB ?_ ?c2 ?c3 ?c4 ?c5
  walk_at "mine sides"
  k_steps
  rename News _ _ _ _ => N3
  rename Fr _ _ _ _ => F3
  have hlt : ∀ p ∈ nIn, p.1 < _ := fun p hp => Heap.lt_size (N3 p hp).1
  refine divmod_N F3 N3 hb ?_ (.inl hp)
  intro h7 F7 N7
  k_steps
  exact hret _ _ _ _ ⟨_, _, _, rfl, rfl, hlt⟩ (by k_asm) (by k_asm)
theorem unrEnd1 {h₀ : Heap} {L I T : Addr} {it oT : Obj} {rest : (Str → Option Value) → List (Addr × Obj) → Prop} {s₁ : Shared} {h' : Heap} {tk : Nat} {m' : Str → Option Value} {news' : List (Addr × Obj)} (F : Fr h₀ L h' m') (N : News h₀ L h' ((T, oT) :: (I, it) :: news'))
    (lt : ∀ p ∈ news', p.1 < I) (r : rest m' news') : UnrEnd h₀ L s₁ I it rest { s₁ with heap := h', toks := tk } :=
  UnrEnd.intro F N news' (fun p hp => .tail _ hp) (fun p hp => Nat.ne_of_lt (lt p hp)) r
theorem newsRot {h₀ h : Heap} {L : Addr} {a b c d : Addr × Obj} {rest : List (Addr × Obj)} (N : News h₀ L h (a :: b :: c :: d :: rest)) : News h₀ L h (d :: a :: b :: c :: rest) := newsSub N fun p hp => by
  simp only [List.mem_cons] at hp ⊢
  rcases hp with hp | hp | hp | hp | hp <;> simp [hp]
theorem dmp_con {w p loose mean mg mb} {rest : List (Addr × Obj)} {a hi lo : Int} {t u : Tok} (ha0 : (a != 0) = true) (hfd : Int.fdiv (↑(Builtin.Int.intBits a) + 65 - 1) 65 = 2) (hsh : (Builtin.Int.intBits (Int.fdiv a (2 ^ 65)) : Int) + 65 ≤ 2 ^ 27) (hhi : Int.fdiv a (2 ^ 65) = hi) (hlo : Builtin.bitXor a (hi * 2 ^ 65) = lo) (hb1 : (↑(Builtin.Int.intBits hi) : Int) - 65 ≤ 4000) (hp1 : Builtin.divisionGoesByPylong hi 18446744073709551616 = false) (hm1 : hi.fmod 18446744073709551616 = hi) (hq1 : hi.fdiv 18446744073709551616 = 0)
    (hsh2 : (Builtin.Int.intBits hi : Int) + 65 ≤ 2 ^ 27) (hb2 : (↑(Builtin.Int.intBits (hi * 2 ^ 65 + lo)) : Int) - 65 ≤ 4000) (hp2 : Builtin.divisionGoesByPylong (hi * 2 ^ 65 + lo) 18446744073709551616 = false) (hm2 : (hi * 2 ^ 65 + lo).fmod 18446744073709551616 = 0) (h76 : ∀ p ∈ rest, p.1 ≠ 76) (h83 : ∀ p ∈ rest, p.1 ≠ 83) :
    ConD w p loose mean mg mb 7 70 95 [.int a t, .int 18446744073709551616 u] [] ((76, tabObj #[]) :: (83, tabObj #[]) :: rest)
      (fun r nOut => ∃ T q t1 t2 ps1 ps2, r = .ref T ∧ (T, pairObj (.int q t1) (.int 0 t2)) ∈ nOut ∧ (76, tabObj ps1) ∈ nOut ∧ (83, tabObj ps2) ∈ nOut ∧ ∀ p ∈ rest, p ∈ nOut) := by
  unfold ConD
  intro dp un gd cn cs a9 ccd cl outer A₀ base h₀ L m s Q E B F X N T hk hd hu hret
  refine wpAny_call ?_
  refine' code_defM [(Str.ofString "b", .int 18446744073709551616 u), (Str.ofString "a", .int a t)] ?k1 ?k2 ?k3 ?k4 ?k5 ?kA ?kF ?kK ?k6 ?k7 ?k8 ?k9 ?kR ?kB ?_ ?c2 ?c3 ?c4 ?c5
  walk_at "mine sides"
  k_steps
  refine Halt.mk ?_
  have eN : (↑(Builtin.Int.intBits 18446744073709551616) : Int) = 65 := by decide +kernel
  rename Fr _ _ _ _ => F1
  rw [eN] at F1 ⊢
  have h76' : ∀ p ∈ (83, tabObj #[]) :: rest, p.1 ≠ 76 := by
    intro p hp
    rcases List.mem_cons.mp hp with rfl | hp
    · decide
    · exact h76 p hp
  refine ConD.use (i2d_con ha0 hfd hsh hhi hlo h76') (by k_asm) F1 (by k_asm) (by k_asm) (by k_asm) (by first | exact rfl | assumption) (by ktr_room) (by ktr_units) ?_
  intro v' nOut' h' tk' dr' hpost F' N'
  clear F1
  obtain ⟨D, n, t1, t2, ps, rfl, rfl, hlt⟩ := hpost
  k_lt hlt
  (try dsimp only)
  k_steps
  rename News _ _ _ _ => N3
  rename Fr _ _ _ _ => F3
  refine iter_revUnr (vs := [Value.int lo t1, Value.int hi t2]) rfl F3 N3 ?hof (.tail _ (.head _)) rfl rfl ?_
  case hof => exact offI_of (by k_extra "mine below")
  k_steps
  refine Halt.mk ?_
  refine lshift_int ?kb1 ?kb2 ?_
  case kb1 => decide
  case kb2 => decide
  have e0 : (0 : Int) * 2 ^ Int.toNat 65 + hi = hi := by rw [Int.zero_mul, Int.zero_add]
  k_steps
  rw [e0]
  refine Con.use (div_con (by decide) hb1 hp1) (by k_asm) (by k_asm) (by k_asm) (by k_asm) (by k_asm) (by first | exact rfl | assumption) (by ktr_room) (by ktr_units) ?_
  intro v6 nOut6 h6 tk6 hpost6 F6 N6
  obtain ⟨T6, t3, t4, rfl, rfl, hlt6⟩ := hpost6
  rw [hm1, hq1] at N6
  k_lt hlt6
  (try dsimp only)
  k_steps
  rename News _ _ _ _ => N8
  rename Fr _ _ _ _ => F8
  refine unrEnd1 F8 N8 ?lt ⟨.tail _ (.head _), ?_⟩
  case lt => k_extra "mine below"
  clear F8 N8
  k_steps
  refine Halt.mk ?_
  refine lshift_int ?kb3 hsh2 ?_
  case kb3 => decide
  have e2 : hi * 2 ^ Int.toNat 65 + lo = hi * 2 ^ 65 + lo := rfl
  k_steps
  rw [e2]
  refine Con.use (div_con (by decide) hb2 hp2) (by k_asm) (by k_asm) (by k_asm) (by k_asm) (by k_asm) (by first | exact rfl | assumption) (by ktr_room) (by ktr_units) ?_
  intro v7 nOut7 h7 tk7 hpost7 F7 N7
  obtain ⟨T7, t5, t6, rfl, rfl, hlt7⟩ := hpost7
  rw [hm2] at N7
  k_lt hlt7
  (try dsimp only)
  k_steps
  rename News _ _ _ _ => N8
  rename Fr _ _ _ _ => F8
  refine unrEnd1 F8 N8 ?lt2 ⟨.tail _ (.head _), ?_⟩
  case lt2 => k_extra "mine below"
  clear F8 N8
  k_steps
  refine Halt.mk ?_
  rename News _ _ _ _ => N9
  have N10 := newsRot N9
  clear N9
  refine ConD.use (d2i_con ?g1 ?g2) (by k_asm) (by k_asm) (by k_asm) N10 (by k_asm) (by first | exact rfl | assumption) (by ktr_room) (by ktr_units) ?_
  case g1 =>
    intro p hp
    rcases List.mem_cons.mp hp with rfl | hp
    · show @Ne Nat _ _
      omega
    · rcases List.mem_cons.mp hp with rfl | hp
      · show @Ne Nat 76 83
        decide
      · exact h83 p hp
  case g2 => omega
  intro v11 nOut11 h11 tk11 dr11 hpost11 F11 N11
  obtain ⟨q11, t11, ps11, rfl, rfl⟩ := hpost11
  clear N10
  (try dsimp only)
  k_steps
  (try dsimp only)
  rename News _ _ _ _ => N12
  rename Fr _ _ _ _ => F12
  exact hret _ _ _ _ _ ⟨_, _, _, _, _, _, rfl, .head _, .tail _ (.tail _ (.tail _ (.tail _ (.head _)))), .tail _ (.head _), fun p hp => .tail _ (.tail _ (.tail _ (.tail _ (.tail _ hp))))⟩ F12 N12
theorem kw37 : True := by
  k_with "call ref" => (k_here; (with_reducible show wpAny _ _ (call (Value.ref 95) _ _) _ _ _); with_reducible refine halt ?_)
  exact True.intro
theorem idm_con {w p loose mean mg mb} {rest : List (Addr × Obj)} {a hi lo : Int} {t u : Tok} (han : (a < 0) = False) (ha0 : (a != 0) = true) (hfd : Int.fdiv (↑(Builtin.Int.intBits a) + 65 - 1) 65 = 2) (hsh : (Builtin.Int.intBits (Int.fdiv a (2 ^ 65)) : Int) + 65 ≤ 2 ^ 27) (hhi : Int.fdiv a (2 ^ 65) = hi) (hlo : Builtin.bitXor a (hi * 2 ^ 65) = lo) (hb1 : (↑(Builtin.Int.intBits hi) : Int) - 65 ≤ 4000) (hp1 : Builtin.divisionGoesByPylong hi 18446744073709551616 = false) (hm1 : hi.fmod 18446744073709551616 = hi) (hq1 : hi.fdiv 18446744073709551616 = 0)
    (hsh2 : (Builtin.Int.intBits hi : Int) + 65 ≤ 2 ^ 27) (hb2 : (↑(Builtin.Int.intBits (hi * 2 ^ 65 + lo)) : Int) - 65 ≤ 4000) (hp2 : Builtin.divisionGoesByPylong (hi * 2 ^ 65 + lo) 18446744073709551616 = false) (hm2 : (hi * 2 ^ 65 + lo).fmod 18446744073709551616 = 0) (h76 : ∀ p ∈ rest, p.1 ≠ 76) (h83 : ∀ p ∈ rest, p.1 ≠ 83) :
    ConD w p loose mean mg mb 8 80 102 [.int a t, .int 18446744073709551616 u] [] ((76, tabObj #[]) :: (83, tabObj #[]) :: rest)
      (fun r nOut => ∃ T q t1 t2 ps1 ps2, r = .ref T ∧ (T, pairObj (.int q t1) (.int 0 t2)) ∈ nOut ∧ (76, tabObj ps1) ∈ nOut ∧ (83, tabObj ps2) ∈ nOut ∧ ∀ p ∈ rest, p ∈ nOut) := by
  unfold ConD
  intro dp un gd cn cs a9 ccd cl outer A₀ base h₀ L m s Q E B F X N T hk hd hu hret
  refine wpAny_call ?_
  refine' code_defM [(Str.ofString "b", .int 18446744073709551616 u), (Str.ofString "a", .int a t)] ?k1 ?k2 ?k3 ?k4 ?k5 ?kA ?kF ?kK ?k6 ?k7 ?k8 ?k9 ?kR ?kB ?_ ?c2 ?c3 ?c4 ?c5
  walk_at "mine sides"
  have han' : ¬ a < 0 := by rw [han]; exact not_false
  k_steps
  refine Halt.mk ?_
  refine ConD.use (dmp_con ha0 hfd hsh hhi hlo hb1 hp1 hm1 hq1 hsh2 hb2 hp2 hm2 h76 h83) (by k_asm) (by k_asm) (by k_asm) (by k_asm) (by k_asm) (by first | exact rfl | assumption) (by ktr_room) (by ktr_units) ?_
  intro v11 nOut11 h11 tk11 dr11 hpost11 F11 N11
  (try dsimp only)
  k_steps
  exact hret _ _ _ _ _ hpost11 (by k_asm) (by k_asm)

/-- the plain law: names as lists of letter codes, prices as numbers -/
abbrev PRow := List Nat × Nat
def wdB (k : List Nat) : Bool := k.length ≤ 100 && k.all isLet && !k.isEmpty
def hasB (rows : List PRow) (k : List Nat) : Bool := rows.any fun r => r.1.map low == k.map low
/-- the inner while: a row for each power of the pick -/
def growB (pick : PRow) : Nat → List PRow → List Nat → Nat → Option (List PRow)
  | 0, _, _, _ => none
  | n + 1, rows, k, p =>
    if p < 256 then
      if wdB k && !hasB rows k && (rows.length < 900) && (p == 4 || p == 8 || p == 16 || p == 32 || p == 64 || p == 128) then growB pick n (rows ++ [(k, p)]) (k ++ pick.1) (p * pick.2)
      else none
    else some rows
/-- the for over the rows that are left -/
def passB (pick : PRow) : List PRow → List PRow → Option (List PRow)
  | [], rows => some rows
  | q :: r, rows => match growB pick 10 rows (q.1 ++ pick.1) (q.2 * pick.2) with
    | some rows' => passB pick r rows'
    | none => none
def strikeB (rows : List PRow) (i : Nat) : Option (List PRow × PRow) :=
  match rows[i]? with
  | none => none
  | some pick =>
    let rest := rows.filter fun r => r.1.map low != pick.1.map low
    match passB pick rest rest with
    | some rows' => some (rows', pick)
    | none => none
/-- every way to strike ends in picks of which `good` holds -/
def allB (good : List PRow → Bool) : Nat → List PRow → List PRow → Bool
  | 0, _, _ => false
  | n + 1, rows, picks => if rows.isEmpty then good picks else (List.range rows.length).all fun i => match strikeB rows i with
    | some (rows', pick) => allB good n rows' (picks ++ [pick])
    | none => false

/-- a while's turn ends: a lesser measure, the invariant again; what was drawn is free -/
def WhileEnd (h₀ : Heap) (L : Addr) (I : Nat → (Str → Option Value) → List (Addr × Obj) → Prop) (k : Nat) (s s' : Shared) : Prop :=
  ∃ j h' tk dr m' news', j < k ∧ s' = { s with heap := h', toks := tk, drawn := dr } ∧ Fr h₀ L h' m' ∧ News h₀ L h' news' ∧ I j m' news'
theorem WhileEnd.intro {h₀ : Heap} {L : Addr} {I : Nat → (Str → Option Value) → List (Addr × Obj) → Prop} {j k : Nat} {s : Shared} {h' : Heap} {tk : Nat} {dr : Drawn} {m' : Str → Option Value} {news' N2 : List (Addr × Obj)} (F : Fr h₀ L h' m') (N : News h₀ L h' N2) (hs : ∀ p ∈ news', p ∈ N2) (hj : j < k) (hI : I j m' news') :
    WhileEnd h₀ L I k s { s with heap := h', toks := tk, drawn := dr } := ⟨j, h', tk, dr, m', news', hj, rfl, F, newsSub N hs, hI⟩
def WhilePost (h₀ : Heap) (L : Addr) (I : Nat → (Str → Option Value) → List (Addr × Obj) → Prop) (k : Nat) (s : Shared) (Q : Flow → Shared → Prop) (f : Flow) (s' : Shared) : Prop :=
  match f with
  | .ret v => Q (.ret v) s'
  | .brk => Q .next s'
  | _ => WhileEnd h₀ L I k s s'
section
variable {prog : Program} {w : World} {A : Around} {E : Value → Shared → Prop} {s : Shared} {env : Env} {h₀ : Heap} {L : Addr} {Q : Flow → Shared → Prop}
theorem while_inv {test : Expr} {body : List Stmt} {pos : Pos} {m₀ : Str → Option Value} {news₀ : List (Addr × Obj)} (I : Nat → (Str → Option Value) → List (Addr × Obj) → Prop) (k₀ : Nat) (F : Fr h₀ L s.heap m₀) (N : News h₀ L s.heap news₀) (start : ∃ news, (∀ p ∈ news, p ∈ news₀) ∧ I k₀ m₀ news)
    (turn : ∀ k m₁ news₁ h tk dr, I k m₁ news₁ → Fr h₀ L h m₁ → News h₀ L h news₁ →
      wpAny (model prog w) A (isTrue test env (eval test env)) (fun b s₂ => if b = true then wpAny (model prog w) A (execs body env) (WhilePost h₀ L I k s Q) E s₂ else Q .next s₂) E { s with heap := h, toks := tk, drawn := dr })
    (hE : PassesOwn (model prog w) A env E := by passes_own) :
    wpAny (model prog w) A (exec (.While test body [] pos) env) Q E s := by
  refine wpAny_While (codeAny_whileLoop (fun k s' => ∃ h tk dr m₁ news₁, s' = { s with heap := h, toks := tk, drawn := dr } ∧ I k m₁ news₁ ∧ Fr h₀ L h m₁ ∧ News h₀ L h news₁) (fun k s' hI => ?_) k₀ ?_)
  · obtain ⟨h, tk, dr, m₁, news₁, rfl, hI, F₁, N₁⟩ := hI
    refine wpAny_mono (wpAny_passesOwn hE (turn k m₁ news₁ h tk dr hI F₁ N₁)) (fun b s₂ h₂ => ?_) fun _ _ e => e
    cases b with
    | true =>
      simp only [if_true] at h₂ ⊢
      refine wpAny_mono (wpAny_passesOwn hE h₂) (fun f s₃ h₃ => ?_) fun _ _ e => e
      cases f with
      | ret v => exact h₃
      | brk => exact h₃
      | next =>
        obtain ⟨j, h', tk', dr', m', news', hj, rfl, F', N', hI'⟩ := h₃
        exact ⟨j, hj, h', tk', dr', m', news', rfl, hI', F', N'⟩
      | cont =>
        obtain ⟨j, h', tk', dr', m', news', hj, rfl, F', N', hI'⟩ := h₃
        exact ⟨j, hj, h', tk', dr', m', news', rfl, hI', F', N'⟩
    | false =>
      simp only [Bool.false_eq_true, if_false] at h₂ ⊢
      exact wpAny_execs_nil h₂
  · obtain ⟨news, hs, hI⟩ := start
    exact ⟨s.heap, s.toks, s.drawn, m₀, news, rfl, hI, F, newsSub N hs⟩
end

/-- a turn's end over any feed -/
def FeedEndD (h₀ : Heap) (L : Addr) (own : List (Addr × Obj)) (S : List (Addr × Obj) → Prop) (J : (Str → Option Value) → List (Addr × Obj) → Prop) (s s' : Shared) : Prop :=
  ∃ h' tk dr m' news', s' = { s with heap := h', toks := tk, drawn := dr } ∧ Fr h₀ L h' m' ∧ News h₀ L h' (own ++ news') ∧ Apart own news' ∧ S news' ∧ J m' news'
theorem FeedEndD.intro {h₀ : Heap} {L : Addr} {own : List (Addr × Obj)} {S : List (Addr × Obj) → Prop} {J : (Str → Option Value) → List (Addr × Obj) → Prop} {s : Shared} {h' : Heap} {tk : Nat} {dr : Drawn} {m' : Str → Option Value} {news' N2 : List (Addr × Obj)} (F : Fr h₀ L h' m') (N : News h₀ L h' N2)
    (ho : ∀ p ∈ own, p ∈ N2) (hs : ∀ p ∈ news', p ∈ N2) (ap : Apart own news') (hS : S news') (hj : J m' news') : FeedEndD h₀ L own S J s { s with heap := h', toks := tk, drawn := dr } :=
  ⟨h', tk, dr, m', news', rfl, F, fun p hp => N p ((List.mem_append.mp hp).elim (ho p) (hs p)), ap, hS, hj⟩

def FeedInvD (h₀ : Heap) (L : Addr) (n : Nat) (St : Nat → List (Addr × Obj) → Prop) (S : List (Addr × Obj) → Prop) (J : Nat → (Str → Option Value) → List (Addr × Obj) → Prop) (s : Shared) (k : Nat) (s' : Shared) : Prop :=
  ∃ i own h' tk dr m' news', s' = { s with heap := h', toks := tk, drawn := dr } ∧ St i own ∧ Fr h₀ L h' m' ∧ News h₀ L h' (own ++ news') ∧ Apart own news' ∧ S news' ∧ J i m' news' ∧ i ≤ n ∧ k = n + 1 - i

section
variable {prog : Program} {w : World} {A : Around} {h₀ : Heap} {L : Addr} {target : Expr} {I : Addr} {n : Nat} {St : Nat → List (Addr × Obj) → Prop} {Item : Nat → Value → List (Addr × Obj) → Prop} {S : List (Addr × Obj) → Prop}
/-- one step of any loop over a feed -/
theorem feed_stepD {J : Nat → (Str → Option Value) → List (Addr × Obj) → Prop} {s s' : Shared} {k : Nat} {E : Value → Shared → Prop} {Body : Value → Shared → Prop} {Qn : Shared → Prop} (Fd : Feed prog w A h₀ L target I n St Item S) (inv : FeedInvD h₀ L n St S J s k s')
    (turn : ∀ i v own ex m₁ news₁ h tk dr, i < n → Item i v ex → J i m₁ news₁ → S news₁ → Apart own (ex ++ news₁) → Fr h₀ L h m₁ → News h₀ L h (own ++ (ex ++ news₁)) → (∀ s₂, FeedEndD h₀ L own S (J (i + 1)) s s₂ → ∃ k', k' < k ∧ FeedInvD h₀ L n St S J s k' s₂) → Body v { s with heap := h, toks := tk, drawn := dr })
    (fin : ∀ m₁ news₁ h tk dr, J n m₁ news₁ → Fr h₀ L h m₁ → News h₀ L h news₁ → Qn { s with heap := h, toks := tk, drawn := dr }) :
    wpAny (model prog w) A (pyNext (.ref I)) (fun r s₁ => match r with | none => Qn s₁ | some v => wpAny (model prog w) A (letOwnedTupleGo target (.ref I) v) (fun _ s₂ => Body v s₂) E s₁) E s' := by
  obtain ⟨i, own, h', tk, dr, m', news', rfl, st, F, N, ap, hS, hJ, hi, rfl⟩ := inv
  by_cases hlt : i < n
  · refine wpAny_mono (Fd.item i own news' m' _ Body E hlt st hS F N ap fun v own' ex h₁ tk₁ st₁ it ap₁ F₁ N₁ => ?_) (fun r s₁ h₁ => ?_) fun _ _ e => e
    · refine turn i v own' ex m' news' h₁ tk₁ dr hlt it hJ hS ap₁ F₁ N₁ ?_
      rintro s₂ ⟨h₂, tk₂, dr₂, m₂, news₂, rfl, F₂, N₂, ap₂, hS₂, hJ₂⟩
      exact ⟨n + 1 - (i + 1), by omega, i + 1, own', h₂, tk₂, dr₂, m₂, news₂, rfl, st₁, F₂, N₂, ap₂, hS₂, hJ₂, hlt, rfl⟩
    · cases r with
      | none => exact h₁.elim
      | some v => exact h₁
  · have hin : i = n := by omega
    subst hin
    refine wpAny_mono (Fd.done own news' m' _ Qn E st hS F N ap fun h₁ tk₁ F₁ N₁ => fin m' news' h₁ tk₁ dr hJ F₁ N₁) (fun r s₁ h₁ => ?_) fun _ _ e => e
    cases r with
    | none => exact h₁
    | some v => exact h₁.elim
end

section
variable {prog : Program} {w : World} {A : Around} {E : Value → Shared → Prop} {s : Shared} {env : Env} {h₀ : Heap} {L : Addr} {Q : Flow → Shared → Prop}
def FeedPostD (h₀ : Heap) (L : Addr) (own : List (Addr × Obj)) (S : List (Addr × Obj) → Prop) (J : (Str → Option Value) → List (Addr × Obj) → Prop) (s : Shared) (Q : Flow → Shared → Prop) (f : Flow) (s' : Shared) : Prop :=
  match f with
  | .ret v => Q (.ret v) s'
  | .brk => Q .next s'
  | _ => FeedEndD h₀ L own S J s s'
/-- a for over any feed -/
theorem for_feedD {target iter : Expr} {body : List Stmt} {pos : Pos} {m₀ : Str → Option Value} {n : Nat} {Item : Nat → Value → List (Addr × Obj) → Prop} {S : List (Addr × Obj) → Prop} (_F : Fr h₀ L s.heap m₀) (J : Nat → (Str → Option Value) → List (Addr × Obj) → Prop)
    (he : wpAny (model prog w) A (eval iter env) (fun xv s₁ => wpAny (model prog w) A (pyIter xv) (FeedAt prog w A h₀ L target n Item S (J 0) s) E s₁) E s)
    (turn : ∀ i v own ex m₁ news₁ h tk dr, i < n → Item i v ex → J i m₁ news₁ → S news₁ → Apart own (ex ++ news₁) → Fr h₀ L h m₁ → News h₀ L h (own ++ (ex ++ news₁)) →
      wpAny (model prog w) A (assign target env v) (fun _ s₃ => wpAny (model prog w) A (execs body env) (FeedPostD h₀ L own S (J (i + 1)) s Q) E s₃) E { s with heap := h, toks := tk, drawn := dr })
    (fin : ∀ m₁ news₁ h tk dr, J n m₁ news₁ → Fr h₀ L h m₁ → News h₀ L h news₁ → Q .next { s with heap := h, toks := tk, drawn := dr })
    (hs : ∀ x, foldedSetIterable iter env x = pure x := by intro _; rfl)
    (hE : PassesOwn (model prog w) A env E := by passes_own) :
    wpAny (model prog w) A (exec (.For target iter body [] pos) env) Q E s := by
  refine wpAny_For (wpAny_mono he (fun xv s₁ h₁ => wpAny_mono h₁ (fun it s₂ h₂ => ?_) fun _ _ e => e) fun _ _ e => e) hs
  obtain ⟨I, St, own, h, tk, m₁, news₁, rfl, Fd, rfl, st, F, N, ap, hS, hJ⟩ := h₂
  refine codeAny_forLoop_any (FeedInvD h₀ L n St S J s) (fun k s' inv => ?_) (n + 1) ⟨0, own, h, tk, s.drawn, m₁, news₁, rfl, st, F, N, ap, hS, hJ, Nat.zero_le _, rfl⟩
  refine wpAny_mono (feed_stepD (Body := fun v s₂ => wpAny (model prog w) A (assign target env v) (fun _ s₃ => wpAny (model prog w) A (execs body env) (fun f s₃ => match f with
            | .next | .cont => ∃ m, m < k ∧ FeedInvD h₀ L n St S J s m s₃
            | .brk => Q .next s₃
            | .ret v => Q (.ret v) s₃) (notedBy (model prog w) A env fun e s' => cameBackBy (model prog w) A env E e s') s₃) (notedBy (model prog w) A env fun e s' => cameBackBy (model prog w) A env E e s') s₂) (Qn := fun s₁ => Q .next s₁) Fd inv
      (fun i v own' ex m₂ news₂ h₂ tk₂ dr₂ hi it hJ₂ hS₂ ap₂ F₂ N₂ fe => ?_) fin) (fun r s₁ h₁ => ?_) fun _ _ e => e
  · refine wpAny_mono (wpAny_passesOwn hE (turn i v own' ex m₂ news₂ h₂ tk₂ dr₂ hi it hJ₂ hS₂ ap₂ F₂ N₂)) (fun _ s₃ h₃ => wpAny_mono (wpAny_passesOwn hE h₃) (fun f s₄ h₄ => ?_) fun _ _ e => e) fun _ _ e => e
    cases f with
    | ret v => exact h₄
    | brk => exact h₄
    | next => exact fe _ h₄
    | cont => exact fe _ h₄
  · cases r with
    | none => exact wpAny_execs_nil h₁
    | some v => exact h₁
end


theorem addh_con {w p loose mean mg mb} {rest : List (Addr × Obj)} {x d l : Addr} {n : Nat} {rows : List Row} {nm : List Nat} {t tv : Tok} (hT : Tab w x d l n rows ((l, W.listOf (rows.map Row.ref).toArray n) :: rest)) (hoff : ∀ p ∈ rest, p.1 ≠ l) (hw : Wd nm) (hsz : (rows.map Row.ref).toArray.size ≤ sizeLine) :
    Con w p loose mean mg mb 5 40 266 [.ref x, .str (st nm) t, .str (st nm) tv] [] ((l, W.listOf (rows.map Row.ref).toArray n) :: rest)
      (fun r nOut => ∃ q : Row, q.k = nm ∧ q.v = st nm ∧ (∀ p ∈ ((l, W.listOf (rows.map Row.ref).toArray n) :: rest), p.1 < q.a) ∧ nOut = (q.a, q.obj) :: (l, W.listOf ((rows ++ [q]).map Row.ref).toArray (n + 1)) :: rest) := by
  unfold Con
  intro dp un gd cn cs a ccd cl outer A₀ base h₀ L m s Q E B F X N T hk hd hu hret
  have hp1 := hw.plain
  have hs1 := hw.len
  refine wpAny_call ?_
  k_dflt (refine' kp_more ?k1 ?k2 ?k3 ?k4 ?k5 ?kA ?kF ?kK ?k6 ?k7 ?k8 ?kX ?kM ?kN ?kD ?kR ?kP ?kT ?kB ?_ ?c2 ?c3 ?c4 ?c5; (case kA => exact rfl); (case kF => exact rfl); (case kK => assumption); (case k1 => k_asm); (case k2 => k_asm); (case k3 => k_asm); (case k4 => k_asm); (case k5 => k_asm); (case k6 => k_is); (case k7 => k_is); (case k8 => ktr_room); (case kX => kp_lit); (case kM => exact rfl); (case kN => exact rfl); (case kD => kp_flats); (case kR => exact rfl); (case kP => exact rfl); (case kT => exact fun _ => rfl); (case kB => exact fun _ => locs rfl); (case c5 => decide); (case c2 => exact rfl); (case c3 => exact rfl); (case c4 => exact rfl); k_whole; intro D' o' g' L' h' tk' l1 lo' hs' fs' FG' F' N' B' X' T'; (try k_lt l1); (try dsimp only); (try k_lift B'); (try k_fold))
  clear B F N X T
  obtain ⟨hin, ⟨tkh, hdi⟩, hli, hro, hok⟩ := id hT
  k_steps
  rename News _ _ _ _ => N9
  rename Fr _ _ _ _ => F9
  rename (∀ p ∈ (_ : List (Addr × Obj)), Prod.fst p < _) => lt9
  have ej : Txt.join (Str.ofString "; ") [st nm] = st nm := by rfl
  rw [ej] at N9
  have N10 : News _ _ _ ((_, { cls := .type "tuple", data := .seq #[.str (st nm) t, .str (st nm) _] }) :: (l, W.listOf (rows.map Row.ref).toArray n) :: rest) := newsSub N9 fun p hp => by
    rcases List.mem_cons.mp hp with rfl | hp
    · exact .head _
    · exact .tail _ (.tail _ (.tail _ (.tail _ hp)))
  have ne9 := Nat.ne_of_gt (lt9 (l, W.listOf (rows.map Row.ref).toArray n) (by simp))
  have lt10 : ∀ p ∈ (l, W.listOf (rows.map Row.ref).toArray n) :: rest, @LT.lt Nat _ p.1 _ := fun p hp => lt9 p (.tail _ (.tail _ (.tail _ hp)))
  refine' append_K F9 N10 (Upd.tail ne9 (Upd.head hoff)) ?_ hsz
  intro h11 F11 N11
  clear N9 N10 F9 lt9
  k_steps
  rename News _ _ _ _ => N12
  rename Fr _ _ _ _ => F12
  refine leaveK_ F12 N12 fun kF kN => ?_
  exact hret _ _ _ _ ⟨⟨_, nm, t, st nm, _⟩, rfl, rfl, lt10, rfl⟩ kF (by simpa [Row.ref] using kN)

local macro_rules | `(tactic| k_room) => `(tactic| ktr_room)
structure PickRow where
  a : Addr
  k : List Nat
  tk : Tok
  v : Nat
  tv : Tok
abbrev PickRow.obj (r : PickRow) : Obj := { cls := .type "tuple", data := .seq #[.str (st r.k) r.tk, .int (r.v : Int) r.tv] }
abbrev PickRow.ref (r : PickRow) : Value := .ref r.a
abbrev PickRow.plain (r : PickRow) : PRow := (r.k, r.v)
/-- a list of (text, number) tuples in the ledger -/
structure PickTab (a : Addr) (n : Nat) (rows : List PickRow) (news : List (Addr × Obj)) : Prop where
  list : (a, W.listOf (rows.map PickRow.ref).toArray n) ∈ news
  objs : ∀ r ∈ rows, (r.a, r.obj) ∈ news
theorem kw38 : True := by
  k_with "exec For Tuple Call" => (k_here; with_reducible refine halt ?_)
  exact True.intro
theorem kw39 : True := by
  k_with "exec For Tuple Name" => (k_here; with_reducible refine halt ?_)
  exact True.intro
theorem kw40 : True := by
  k_with "exec While UnaryOp" => (k_here; with_reducible refine halt ?_)
  exact True.intro
theorem kw41 : True := by
  k_with "exec While" => (k_here; with_reducible refine halt ?_)
  exact True.intro
def NumV (v : Int) : Prop := v = 2 ∨ v = 4 ∨ v = 8 ∨ v = 16 ∨ v = 32 ∨ v = 64 ∨ v = 128
theorem NumV.ofNat {p : Nat} (h : ((((p = 4 ∨ p = 8) ∨ p = 16) ∨ p = 32) ∨ p = 64) ∨ p = 128) : NumV (p : Int) := by
  rcases h with ((((rfl | rfl) | rfl) | rfl) | rfl) | rfl
  · exact .inr (.inl rfl)
  · exact .inr (.inr (.inl rfl))
  · exact .inr (.inr (.inr (.inl rfl)))
  · exact .inr (.inr (.inr (.inr (.inl rfl))))
  · exact .inr (.inr (.inr (.inr (.inr (.inl rfl)))))
  · exact .inr (.inr (.inr (.inr (.inr (.inr rfl)))))
theorem NumV.ofPrice {v : Int} (h : v = 2 ∨ v = 4 ∨ v = 8 ∨ v = 16) : NumV v := h.elim .inl fun h => .inr (h.elim .inl fun h => .inr (h.elim .inl fun h => .inr (.inl h)))
theorem NumV.nonneg {v : Int} (h : NumV v) : 0 ≤ v := by
  rcases h with rfl | rfl | rfl | rfl | rfl | rfl | rfl <;> exact Int.natCast_nonneg _
theorem price_nat {v : Int} (h : v = 2 ∨ v = 4 ∨ v = 8 ∨ v = 16) : v = ((v.toNat : Nat) : Int) := (Int.toNat_of_nonneg (NumV.ofPrice h).nonneg).symm
theorem NumV.num {v : Int} (h : NumV v) : Num (Str.ofString (toString v)) v := by
  rcases h with rfl | rfl | rfl | rfl | rfl | rfl | rfl <;> (unfold Num nums; decide +kernel)
theorem NumV.log {v : Int} (h : NumV v) : v.natAbs.log2 < 1920 := by
  rcases h with rfl | rfl | rfl | rfl | rfl | rfl | rfl <;> decide +kernel
theorem str_num {prog : Program} {w : World} {A : Around} {E : Value → Shared → Prop} {s : Shared} {v : Int} {t : Tok} {Q : Value → Shared → Prop} (hv : NumV v) (h : ∀ x t' k, Num x v → Q (.str x t') { s with toks := k }) : wpAny (model prog w) A (call (.type "str") [.int v t]) Q E s :=
  P.str_of_int hv.log (h _ _ _ hv.num)
theorem Num.plain {x : Str} {v : Int} (h : Num x v) : plainS x := num_all (P := fun x _ => plainS x) (by unfold plainS; decide +kernel) h
theorem kw42 : True := by
  k_with "call type:str" => (k_here; (with_reducible show wpAny _ _ (call (Value.type "str") [Value.int _ _]) _ _ _); k_dflt (refine str_num (by assumption) ?_); intro x' t' k' hnum'; (try dsimp only))
  exact True.intro
theorem kw43 : True := by
  k_with "call ref" => (k_here; (with_reducible show wpAny _ _ (call (Value.ref 259) _ _) _ _ _); k_dflt (refine Con.use (setd_con (by assumption) (by assumption) (by assumption) (Num.plain (by assumption)) (by assumption) (by assumption)) (by k_asm) (by k_asm) (by k_asm) (by k_asm) (by k_asm) (by first | exact rfl | assumption) (by ktr_room) (by ktr_units) ?_; k_whole); intro v' nOut' h' tk' hpost F' N'; (try dsimp only))
  exact True.intro
/-- the table and the ledger's tail while it is struck -/
structure TS (w : World) (x d l : Addr) (n : Nat) (rows : List Row) (R P Z : List (Addr × Obj)) : Prop where
  tab : Tab w x d l n rows ((l, W.listOf (rows.map Row.ref).toArray n) :: P)
  off : ∀ p ∈ R, p.1 ≠ l
  split : SplitAt P Z R
  tz : TabZ Z
  ap : ∀ p ∈ P, ∀ q ∈ Z, q.1 ≠ p.1
theorem Tab.mono {w : World} {x d l : Addr} {n : Nat} {rows : List Row} {A B : List (Addr × Obj)} (h : Tab w x d l n rows A) (hs : ∀ p ∈ A, p ∈ B) : Tab w x d l n rows B :=
  ⟨hs _ h.inst, let ⟨t, ht⟩ := h.dict; ⟨t, hs _ ht⟩, hs _ h.list, fun r hr => hs _ (h.objs r hr), h.ok⟩
theorem Tab.old {w : World} {x d l : Addr} {n : Nat} {rows rows' : List Row} {R : List (Addr × Obj)} (h : Tab w x d l n rows ((l, W.listOf (rows'.map Row.ref).toArray n) :: R)) : (x, instObj 269 d) ∈ R ∧ (∃ tkh, (d, dictOf [DictEntry.mk (PyData.keyHash (World.params w) (Str.ofString "_headers")) (.str (Str.ofString "_headers") tkh) (.ref l)] 1) ∈ R) ∧ ∀ r ∈ rows, (r.a, r.obj) ∈ R := by
  refine ⟨?_, ?_, fun r hr => ?_⟩
  · rcases List.mem_cons.mp h.inst with e | e
    · exact absurd (congrArg (fun p : Addr × Obj => p.2.cls) e) (by intro q; cases q)
    · exact e
  · obtain ⟨t, ht⟩ := h.dict
    rcases List.mem_cons.mp ht with e | e
    · exact absurd (congrArg (fun p : Addr × Obj => p.2.cls) e) (by intro q; simp [dictOf] at q)
    · exact ⟨t, e⟩
  · rcases List.mem_cons.mp (h.objs r hr) with e | e
    · exact absurd (congrArg (fun p : Addr × Obj => p.2.cls) e) (by intro q; simp at q)
    · exact e
theorem TS.sub {w : World} {x d l : Addr} {n : Nat} {rows : List Row} {R P Z : List (Addr × Obj)} (h : TS w x d l n rows R P Z) : (∀ p ∈ P, p ∈ R) ∧ ∀ p ∈ Z, p ∈ R := by
  rw [h.split.eq]
  exact ⟨fun p hp => List.mem_append_left _ hp, fun p hp => List.mem_append_right _ hp⟩
theorem TS.tabR {w : World} {x d l : Addr} {n : Nat} {rows : List Row} {R P Z : List (Addr × Obj)} (h : TS w x d l n rows R P Z) : Tab w x d l n rows ((l, W.listOf (rows.map Row.ref).toArray n) :: R) :=
  h.tab.mono fun p hp => by
    rcases List.mem_cons.mp hp with rfl | hp
    · exact .head _
    · exact .tail _ (h.sub.1 p hp)
theorem TS.step {w : World} {x d l : Addr} {n : Nat} {rows : List Row} {R P Z : List (Addr × Obj)} {qr : Row} (h : TS w x d l n rows R P Z) (hq : qr.Ok) (lt : ∀ p ∈ (l, W.listOf (rows.map Row.ref).toArray n) :: R, @LT.lt Nat _ p.1 qr.a) :
    TS w x d l (n + 1) (rows ++ [qr]) ((qr.a, qr.obj) :: R) ((qr.a, qr.obj) :: P) Z := by
  obtain ⟨h1, ⟨t, h2⟩, h3⟩ := Tab.old h.tab
  refine ⟨⟨.tail _ (.tail _ h1), ⟨t, .tail _ (.tail _ h2)⟩, .head _, fun r hr => ?_, fun r hr => ?_⟩, fun p hp => ?_, .cons h.split, h.tz, fun p hp q hq' => ?_⟩
  · rcases List.mem_append.mp hr with hr | hr
    · exact .tail _ (.tail _ (h3 r hr))
    · rw [List.mem_singleton.mp hr]; exact .tail _ (.head _)
  · rcases List.mem_append.mp hr with hr | hr
    · exact h.tab.ok r hr
    · rw [List.mem_singleton.mp hr]; exact hq
  · rcases List.mem_cons.mp hp with rfl | hp
    · exact Nat.ne_of_gt (lt _ (.head _))
    · exact h.off p hp
  · rcases List.mem_cons.mp hp with rfl | hp
    · exact Nat.ne_of_lt (lt _ (.tail _ (h.sub.2 q hq')))
    · exact h.ap p hp q hq'
theorem TS.push {w : World} {x d l D : Addr} {o : Obj} {n : Nat} {rows : List Row} {R P Z : List (Addr × Obj)} (h : TS w x d l n rows R P Z) (lt : ∀ p ∈ (l, W.listOf (rows.map Row.ref).toArray n) :: R, @LT.lt Nat _ p.1 D) :
    TS w x d l n rows ((D, o) :: R) ((D, o) :: P) Z := by
  refine ⟨h.tab.mono fun p hp => ?_, fun p hp => ?_, .cons h.split, h.tz, fun p hp q hq => ?_⟩
  · rcases List.mem_cons.mp hp with rfl | hp
    · exact .head _
    · exact .tail _ (.tail _ hp)
  · rcases List.mem_cons.mp hp with rfl | hp
    · exact Nat.ne_of_gt (lt _ (.head _))
    · exact h.off p hp
  · rcases List.mem_cons.mp hp with rfl | hp
    · exact Nat.ne_of_lt (lt _ (.tail _ (h.sub.2 q hq)))
    · exact h.ap p hp q hq
theorem TS.pushA {w : World} {x d l D : Addr} {o : Obj} {n : Nat} {rows : List Row} {R P Z : List (Addr × Obj)} (h : TS w x d l n rows R P Z) (h1 : D ≠ l) (h2 : ∀ p ∈ R, p.1 ≠ D) : TS w x d l n rows ((D, o) :: R) ((D, o) :: P) Z := by
  refine ⟨h.tab.mono fun p hp => ?_, fun p hp => ?_, .cons h.split, h.tz, fun p hp q hq => ?_⟩
  · rcases List.mem_cons.mp hp with rfl | hp
    · exact .head _
    · exact .tail _ (.tail _ hp)
  · rcases List.mem_cons.mp hp with rfl | hp
    · exact h1
    · exact h.off p hp
  · rcases List.mem_cons.mp hp with rfl | hp
    · exact h2 q (h.sub.2 q hq)
    · exact h.ap p hp q hq
theorem SplitAt.app {P Z : List (Addr × Obj)} : SplitAt P Z (P ++ Z) := by
  induction P with
  | nil => exact .nil
  | cons q P ih => exact .cons ih
theorem TS.keep {w : World} {x d l : Addr} {n : Nat} {rows : List Row} {R P Z Z' : List (Addr × Obj)} {o : Obj} (h : TS w x d l n rows R P Z) (k : Keeps ((l, o) :: P) Z Z') : TS w x d l n rows (P ++ Z') P Z' := by
  refine ⟨h.tab, fun p hp => ?_, .app, k.tab, fun p hp => ?_⟩
  · rcases List.mem_append.mp hp with hp | hp
    · exact h.off p (h.sub.1 p hp)
    · exact k.apart ⟨_, .head _⟩ (fun q hq => h.off q (h.sub.2 q hq)) p hp
  · exact k.apart ⟨p.2, .tail _ hp⟩ (h.ap p hp)
theorem ifs_TS {w p loose mean mg mb} {x d l : Addr} {n : Nat} {rows : List Row} {R P Z : List (Addr × Obj)} {xs : Str} {v : Int} {t : Tok} (hTS : TS w x d l n rows R P Z) (hx : Num xs v) :
    ConD w p loose mean mg mb 6 60 60 [.str xs t] [] ((l, W.listOf (rows.map Row.ref).toArray n) :: R)
      (fun r nOut => (∃ t, r = .int v t) ∧ ∃ Z', nOut = (l, W.listOf (rows.map Row.ref).toArray n) :: (P ++ Z') ∧ TS w x d l n rows (P ++ Z') P Z' ∧ Keeps ((l, W.listOf (rows.map Row.ref).toArray n) :: P) Z Z') := by
  have h := ifs_Z (w := w) (p := p) (loose := loose) (mean := mean) (mg := mg) (mb := mb) (t := t) hx hTS.tz (SplitAt.cons (e := (l, W.listOf (rows.map Row.ref).toArray n)) hTS.split) fun p hp q hq => by
    rcases List.mem_cons.mp hp with rfl | hp
    · exact hTS.off q (hTS.sub.2 q hq)
    · exact hTS.ap p hp q hq
  refine h.sub (fun q hq => hq) fun r o1 ⟨hr, Z', ho, hk⟩ => ⟨o1, ⟨hr, Z', ho, hTS.keep hk, hk⟩, fun q hq => hq⟩
theorem TS.filter {w : World} {x d l : Addr} {n n' : Nat} {rows : List Row} {R P Z : List (Addr × Obj)} {f : Row → Bool} (h : TS w x d l n rows R P Z) : TS w x d l n' (rows.filter f) R P Z := by
  obtain ⟨h1, ⟨t, h2⟩, h3⟩ := Tab.old h.tab
  exact ⟨⟨.tail _ h1, ⟨t, .tail _ h2⟩, .head _, fun r hr => .tail _ (h3 r (List.mem_filter.mp hr).1), fun r hr => h.tab.ok r (List.mem_filter.mp hr).1⟩, h.off, h.split, h.tz, h.ap⟩
theorem TS.perm {w : World} {x d l : Addr} {n : Nat} {rows : List Row} {P P' Z : List (Addr × Obj)} {R : List (Addr × Obj)} (h : TS w x d l n rows R P Z) (h1 : ∀ p ∈ P, p ∈ P') (h2 : ∀ p ∈ P', p ∈ P) : TS w x d l n rows (P' ++ Z) P' Z := by
  refine ⟨h.tab.mono fun p hp => ?_, fun p hp => ?_, .app, h.tz, fun p hp => h.ap p (h2 p hp)⟩
  · rcases List.mem_cons.mp hp with rfl | hp
    · exact .head _
    · exact .tail _ (h1 p hp)
  · rcases List.mem_append.mp hp with hp | hp
    · exact h.off p (h.sub.1 p (h2 p hp))
    · exact h.off p (h.sub.2 p hp)
/-- the rows stand for the plain rows -/
def Rep : List Row → List PRow → Prop
  | [], [] => True
  | r :: rs, q :: qs => (r.k = q.1 ∧ Num r.v (q.2 : Int)) ∧ Rep rs qs
  | _, _ => False
theorem kw44 : True := by
  k_with "mine split" => first | exact SplitAt.nil | (with_reducible assumption) | (apply SplitAt.cons; k_extra "mine split")
  exact True.intro
theorem for_empty {prog : Program} {w : World} {A : Around} {E : Value → Shared → Prop} {s : Shared} {env : Env} {h₀ : Heap} {Q : Flow → Shared → Prop} {target iter : Expr} {body : List Stmt} {pos : Pos} {l : Addr} {n : Nat} {L : Addr} {m : Str → Option Value} {news : List (Addr × Obj)} (F : Fr h₀ L s.heap m) (_N : News h₀ L s.heap news) (hL : env.locals = L) (hh : A.handled = none) (hm : (l, W.listOf #[] n) ∈ news)
    (he : wpAny (model prog w) A (eval iter env) (ItAt h₀ L l (fun m' n' => m' = m ∧ n' = news) s) E s) (fin : ∀ h tk, Fr h₀ L h m → News h₀ L h news → Q .next { s with heap := h, toks := tk })
    (hs : ∀ x, foldedSetIterable iter env x = pure x := by intro _; rfl) (hE : PassesOwn (model prog w) A env E := by passes_own) : wpAny (model prog w) A (exec (.For target iter body [] pos) env) Q E s :=
  for_items F hL (its := #[]) (n := n) (fun _ m' n' => m' = m ∧ n' = news) hh (fun _ _ _ h => by rw [h.2]; exact hm) he (fun i v m₁ n₁ I oI h tk hi => by simp at hi) (fun m₁ n₁ h tk hJ F' N' => by
    obtain ⟨rfl, rfl⟩ := hJ
    exact fin h tk F' N') hs hE
local macro_rules | `(tactic| walk_at "call type:zip") => `(tactic| (k_here; (with_reducible show wpAny _ _ (call (Value.type "zip") [Value.str _ _, Value.ref _]) _ _ _); k_dflt (refine' zip_call (rd := [(_, W.listOf _ _)]) ?hx ?hs ?F ?N ?hr ?_; (case hx => decide +kernel); (case hs => exact src_list); (case F => k_asm); (case N => k_asm); (case hr => (refine List.forall_mem_cons.mpr ⟨?m, List.forall_mem_nil _⟩; (case m => k_mem))))))
theorem Rep.length : ∀ {rows : List Row} {prs : List PRow}, Rep rows prs → rows.length = prs.length
  | [], [], _ => rfl
  | _ :: _, _ :: _, h => by rw [List.length_cons, List.length_cons, Rep.length h.2]
theorem Rep.snoc : ∀ {rows : List Row} {prs : List PRow} {r : Row} {q : PRow}, Rep rows prs → r.k = q.1 → Num r.v (q.2 : Int) → Rep (rows ++ [r]) (prs ++ [q])
  | [], [], _, _, _, h1, h2 => ⟨⟨h1, h2⟩, trivial⟩
  | _ :: _, _ :: _, _, _, h, h1, h2 => ⟨h.1, Rep.snoc h.2 h1 h2⟩
theorem Rep.none : ∀ {rows : List Row} {prs : List PRow} {k : List Nat}, Rep rows prs → hasB prs k = false → findR rows (k.map low) = none
  | [], [], _, _, _ => rfl
  | r :: rs, q :: qs, k, h, hh => by
    unfold hasB at hh
    rw [List.any_cons, Bool.or_eq_false_iff] at hh
    have ih := Rep.none (k := k) h.2 hh.2
    unfold findR at ih ⊢
    rw [List.find?_cons, h.1.1, hh.1]
    exact ih
def startRows (ps : List (Int × Tok)) : List PRow := ps.zipIdx.map fun q => ([97 + q.2], q.1.1.toNat)
theorem start_at {ps : List (Int × Tok)} {i : Nat} {q : Int × Tok} (h : ps[i]? = some q) : (startRows ps)[i]? = some ([97 + i], q.1.toNat) := by
  unfold startRows
  rw [List.getElem?_map, List.getElem?_zipIdx, h]
  simp
theorem start_not {ps : List (Int × Tok)} {i : Nat} (hi : i < 3) : hasB ((startRows ps).take i) [97 + i] = false := by
  unfold hasB
  rw [List.any_eq_false]
  intro r hr
  obtain ⟨j, hj⟩ := List.mem_iff_getElem?.mp hr
  rw [List.getElem?_take] at hj
  split at hj
  · rename_i hlt
    unfold startRows at hj
    rw [List.getElem?_map, List.getElem?_zipIdx] at hj
    cases hp : ps[j]? with
    | none => rw [hp] at hj; simp at hj
    | some q =>
      rw [hp] at hj
      simp at hj
      rw [← hj]
      simp only [List.map_cons, List.map_nil, beq_iff_eq, List.cons.injEq, and_true]
      unfold low
      intro e
      split at e <;> split at e <;> omega
  · simp at hj
/-- the code table of `inner`, made or not -/
def Has48 (news : List (Addr × Obj)) : Prop := (48, tabObj #[]) ∈ news ∨ ∃ c oc, (48, grown48 c) ∈ news ∧ (c, oc) ∈ news ∧ Made48 oc
theorem TabZ.has {Z : List (Addr × Obj)} (h : TabZ Z) : Has48 Z := by
  rcases h with ⟨z1, z2, rfl, _⟩ | h
  · exact .inl (by simp)
  · exact .inr h
theorem Has48.mono {A B : List (Addr × Obj)} (h : Has48 A) (hs : ∀ p ∈ A, p ∈ B) : Has48 B := by
  rcases h with h | ⟨c, oc, h1, h2, h3⟩
  · exact .inl (hs _ h)
  · exact .inr ⟨c, oc, hs _ h1, hs _ h2, h3⟩
/-- the while loop's invariant: every way to go on ends well -/
def WInv (w : World) (Z : List (Addr × Obj)) (dl : Addr) (good : List PRow → Bool) (k : Nat) (m' : Str → Option Value) (news' : List (Addr × Obj)) : Prop :=
  ∃ (xv dv lv lp : Addr) (n np : Nat) (rows : List Row) (picks : List PickRow) (R P Z' : List (Addr × Obj)) (prs : List PRow), m' (Str.ofString "table") = some (.ref xv) ∧ m' (Str.ofString "draws") = some (.ref dl) ∧ m' (Str.ofString "picks") = some (.ref lp) ∧
    news' = (lv, W.listOf (rows.map Row.ref).toArray n) :: (lp, W.listOf (picks.map PickRow.ref).toArray np) :: R ∧ TS w xv dv lv n rows R P Z' ∧ lp ≠ lv ∧
    (∀ p ∈ R, p.1 ≠ lp) ∧ (∀ r ∈ picks, (r.a, r.obj) ∈ P) ∧ (∀ p ∈ Z, p.1 ≠ 48 → p ∈ Z') ∧ Rep rows prs ∧ allB good k prs (picks.map PickRow.plain) = true ∧ prs.length ≤ 900 ∧ picks.length + k = 9

theorem kw45 : True := by
  k_with "call ref" => (k_here; (with_reducible show wpAny _ _ (call (Value.ref 233) _ _) _ _ _); k_dflt (refine Con.use (items_con (by assumption) (by assumption)) (by k_asm) (by k_asm) (by k_asm) (by k_asm) (by k_asm) (by first | exact rfl | assumption) (by ktr_room) (by ktr_units) ?_; k_whole); intro v' nOut' h' tk' hpost F' N'; obtain ⟨a', e1', lt9, e2'⟩ := hpost; subst e1'; subst e2'; (try dsimp only))
  exact True.intro
theorem kw46 : True := by
  k_with "call ref" => (k_here; (with_reducible show wpAny _ _ (call (Value.ref 60) _ _) _ _ _); with_reducible refine halt ?_)
  exact True.intro
theorem kw47 : True := by
  k_with "call ref" => (k_here; (with_reducible show wpAny _ _ (call (Value.ref 187) _ _) _ _ _); with_reducible refine halt ?_)
  exact True.intro
theorem fmod_at {a b : Nat} : Int.fmod (a : Int) (b : Int) = ((a % b : Nat) : Int) := (Int.ofNat_fmod a b).symm
theorem Rep.at : ∀ {rows : List Row} {prs : List PRow} {i : Nat} {r : Row}, Rep rows prs → rows[i]? = some r → ∃ q, prs[i]? = some q ∧ r.k = q.1 ∧ Num r.v (q.2 : Int)
  | [], [], _, _, _, h => by simp at h
  | a :: rs, b :: qs, 0, r, h, e => by
    simp at e
    subst e
    exact ⟨b, rfl, h.1.1, h.1.2⟩
  | a :: rs, b :: qs, i + 1, r, h, e => by
    obtain ⟨q, h1, h2⟩ := Rep.at (i := i) h.2 (by simpa using e)
    exact ⟨q, by simpa using h1, h2⟩
section
variable {M : Model} {A : Around} {E : Value → Shared → Prop} {s : Shared} {K : Frag} {x C L f : Addr} {h₀ : Heap} {m : Str → Option Value} {ox : Obj} {od : Option Obj} {i : Value}
theorem del_item {Q : Unit → Shared → Prop} (F : Fr h₀ L s.heap m) (X₀ : K.In h₀) (I : InstAt s.heap x ox C od) (hq : noSeq K C = true) (hs : findIn K (.ref C) "__delitem__" = some (some (.ref f))) (hf : isFn K (.ref f) = true)
    (h : wpAny M A (call (.ref f) [.ref x, i]) (fun _ s' => Q () s') E s) : wpAny M A (delItem (.ref x) i) Q E s := by
  have X := X₀.keeps F.keep
  unfold delItem sequenceKey
  refine wpAny_holding (wpAny_bind (wpAny_bind (I.type.here ?_)))
  refine wpAny_bind ((anyM_none X hq).here ?_)
  rw [if_pos (show (!false) = true from rfl)]
  exact wpAny_pure (wpAny_bind (special_fn X I hs (beq_iff_eq.mp hf) (wpAny_mono h (fun _ _ z => wpAny_pure z) fun _ _ z => z)))
end
theorem kw48 : True := by
  k_with "delItem ref str" => (k_here; k_dflt (refine del_item (by k_asm) (by k_asm) (by k_inst) (by k_is) (by k_is) (by k_is) ?_; k_whole))
  exact True.intro
section
variable {prog : Program} {w : World} {A : Around} {h₀ : Heap} {L : Addr} {target : Expr}
theorem feed_own {I l : Addr} {o : Obj} {n : Nat} {St : Nat → List (Addr × Obj) → Prop} {Item : Nat → Value → List (Addr × Obj) → Prop} (hI : ∀ i v ex, Item i v ex → ex = []) (Fd : Feed prog w A h₀ L target I n St Item (fun news => (l, o) ∈ news)) :
    Feed prog w A h₀ L target I n (fun i own => ∃ own', own = (l, o) :: own' ∧ (∀ p ∈ own', l ≠ p.1) ∧ St i own') Item (fun _ => True) where
  item := by
    rintro i own news m s Q E hlt ⟨own', rfl, ho, st⟩ _ F N ap hQ
    refine Fd.item i own' ((l, o) :: news) m s Q E hlt st (.head _) F (newsSub N fun p hp => ?_) (fun p hp q hq => ?_) fun v own'' ex h' tk st' it ap' F' N' => ?_
    · simp only [List.mem_append, List.mem_cons, List.cons_append] at hp ⊢
      rcases hp with hp | hp | hp <;> simp [hp]
    · rcases List.mem_cons.mp hq with rfl | hq
      · exact ho p hp
      · exact ap p (.tail _ hp) q hq
    · obtain rfl := hI i v ex it
      refine hQ v ((l, o) :: own'') [] h' tk ⟨own'', rfl, fun p hp => ap' p hp _ (.head _), st'⟩ it (fun p hp q hq => ?_) F' (newsSub N' fun p hp => ?_)
      · rcases List.mem_cons.mp hp with rfl | hp
        · exact ap _ (.head _) q hq
        · exact ap' p hp q (.tail _ hq)
      · simp only [List.mem_append, List.mem_cons, List.cons_append, List.nil_append] at hp ⊢
        rcases hp with hp | hp | hp <;> simp [hp]
  done := by
    rintro own news m s Q E ⟨own', rfl, ho, st⟩ _ F N ap hQ
    refine Fd.done own' ((l, o) :: news) m s Q E st (.head _) F (newsSub N fun p hp => ?_) (fun p hp q hq => ?_) fun h' tk F' N' => hQ h' tk F' (newsSub N' fun p hp => .tail _ hp)
    · simp only [List.mem_append, List.mem_cons, List.cons_append] at hp ⊢
      rcases hp with hp | hp | hp <;> simp [hp]
    · rcases List.mem_cons.mp hq with rfl | hq
      · exact ho p hp
      · exact ap p (.tail _ hp) q hq
  self := by
    rintro i own s Q E ⟨own', rfl, ho, st⟩ N hQ
    exact Fd.self i own' s Q E st (newsSub N fun p hp => .tail _ hp) hQ
theorem listFeedOwn {E : Value → Shared → Prop} {s s₀ : Shared} {l : Addr} {its : Array Value} {n0 : Nat} {m : Str → Option Value} {news N2 : List (Addr × Obj)} {J : (Str → Option Value) → List (Addr × Obj) → Prop} (hh : A.handled = none) (hs : ∃ h tk, s = { s₀ with heap := h, toks := tk }) (F : Fr h₀ L s.heap m) (N : News h₀ L s.heap N2) (hN : ∀ p ∈ (l, W.listOf its n0) :: news, p ∈ N2) (off : ∀ p ∈ news, p.1 ≠ l) (hJ : J m news) :
    wpAny (model prog w) A (pyIter (.ref l)) (FeedAt prog w A h₀ L target its.size (fun i v ex => its[i]? = some v ∧ ex = []) (fun _ => True) J s₀) E s := by
  refine wpAny_mono (listFeedAt (target := target) (J := fun m' news' => m' = m ∧ news' = (l, W.listOf its n0) :: news) hh hs F (newsSub N hN) (.head _) ⟨rfl, rfl⟩) (fun it s₁ hA => ?_) fun _ _ e => e
  obtain ⟨I, St, own, h, tk, m₁, news₁, e, Fd, es, st, F', N', ap, hS, hm, hn⟩ := hA
  subst hm
  subst hn
  refine ⟨I, _, (l, W.listOf its n0) :: own, h, tk, m₁, news, e, feed_own (fun i v ex h => h.2) Fd, es, ⟨own, rfl, fun p hp => ap p hp _ (.head _), st⟩, F', newsSub N' fun p hp => ?_, fun p hp q hq => ?_, trivial, hJ⟩
  · simp only [List.mem_append, List.mem_cons, List.cons_append] at hp ⊢
    rcases hp with hp | hp | hp <;> simp [hp]
  · rcases List.mem_cons.mp hp with rfl | hp
    · exact off q hq
    · exact ap p hp q (.tail _ hq)
end
/-- one entry alone is of this address -/
def Uniq (lp : Addr) (o : Obj) (P : List (Addr × Obj)) : Prop := (lp, o) ∈ P ∧ ∃ B : List (Addr × Obj), (∀ p ∈ P, p = (lp, o) ∨ p ∈ B) ∧ (∀ p ∈ B, p ∈ P) ∧ ∀ p ∈ B, p.1 ≠ lp
theorem Uniq.mk1 {lp : Addr} {o : Obj} {P : List (Addr × Obj)} (h : ∀ p ∈ P, p.1 ≠ lp) : Uniq lp o ((lp, o) :: P) := ⟨.head _, P, fun _ hp => List.mem_cons.mp hp, fun _ hp => .tail _ hp, h⟩
theorem Uniq.cons {lp : Addr} {o : Obj} {P : List (Addr × Obj)} {q : Addr × Obj} (h : Uniq lp o P) (hq : q.1 ≠ lp) : Uniq lp o (q :: P) := by
  obtain ⟨h0, B, h1, h2, h3⟩ := h
  refine ⟨.tail _ h0, q :: B, fun p hp => ?_, fun p hp => ?_, fun p hp => ?_⟩
  · rcases List.mem_cons.mp hp with rfl | hp
    · exact .inr (.head _)
    · exact (h1 p hp).imp id fun h => .tail _ h
  · rcases List.mem_cons.mp hp with rfl | hp
    · exact .head _
    · exact .tail _ (h2 p hp)
  · rcases List.mem_cons.mp hp with rfl | hp
    · exact hq
    · exact h3 p hp
/-- the table while the rows that are left are turned -/
structure JInv (w : World) (Z : List (Addr × Obj)) (xv dv dl lv lp : Addr) (lpo : Obj) (r : Row) (pr : PRow) (tv : Tok) (pk : List PickRow) (rows1 : List Row) (n : Nat) (rows : List Row) (R P Z' : List (Addr × Obj)) (prs : List PRow) (m' : Str → Option Value) : Prop where
  m1 : m' (Str.ofString "table") = some (.ref xv)
  m2 : m' (Str.ofString "draws") = some (.ref dl)
  m3 : m' (Str.ofString "picks") = some (.ref lp)
  m4 : m' (Str.ofString "pick") = some (.str (st r.k) r.tk)
  m5 : m' (Str.ofString "worth") = some (.int (pr.2 : Int) tv)
  ts : TS w xv dv lv n rows R P Z'
  keep : ∀ p ∈ Z, p.1 ≠ 48 → p ∈ Z'
  pko : ∀ r ∈ pk, (r.a, r.obj) ∈ P
  uq : Uniq lp lpo P
  rep : Rep rows prs
  ext : ∃ e, rows = rows1 ++ e
  le : prs.length ≤ 900
def JFor (w : World) (Z : List (Addr × Obj)) (xv dv dl lv lp : Addr) (lpo : Obj) (r : Row) (pr : PRow) (tv : Tok) (pk : List PickRow) (rows1 : List Row) (good : List PRow → Bool) (k : Nat) (rest : List PRow) (m' : Str → Option Value) (news' : List (Addr × Obj)) : Prop :=
  ∃ n rows R P Z' prs fin, news' = (lv, W.listOf (rows.map Row.ref).toArray n) :: R ∧ JInv w Z xv dv dl lv lp lpo r pr tv pk rows1 n rows R P Z' prs m' ∧ passB pr rest prs = some fin ∧ allB good k fin (pk.map PickRow.plain) = true
def JWhile (w : World) (Z : List (Addr × Obj)) (xv dv dl lv lp : Addr) (lpo : Obj) (r : Row) (pr : PRow) (tv : Tok) (pk : List PickRow) (rows1 : List Row) (good : List PRow → Bool) (k : Nat) (rest : List PRow) (own : List (Addr × Obj)) (f : Nat) (m' : Str → Option Value) (news' : List (Addr × Obj)) : Prop :=
  ∃ n rows R P Z' prs kk pp tk tp prs2 fin, news' = (lv, W.listOf (rows.map Row.ref).toArray n) :: (own ++ R) ∧ Apart own ((lv, W.listOf (rows.map Row.ref).toArray n) :: R) ∧ JInv w Z xv dv dl lv lp lpo r pr tv pk rows1 n rows R P Z' prs m' ∧
    m' (Str.ofString "longer") = some (.str (st kk) tk) ∧ m' (Str.ofString "price") = some (.int ((pp : Nat) : Int) tp) ∧ growB pr f prs kk pp = some prs2 ∧ passB pr rest prs2 = some fin ∧ allB good k fin (pk.map PickRow.plain) = true
theorem Rep.filter {nm : List Nat} : ∀ {rows : List Row} {prs : List PRow}, Rep rows prs → Rep (rows.filter fun q => q.k.map low != nm.map low) (prs.filter fun q => q.1.map low != nm.map low)
  | [], [], _ => trivial
  | a :: rs, b :: qs, h => by
    have ih := Rep.filter (nm := nm) h.2
    rw [List.filter_cons, List.filter_cons, h.1.1]
    split
    · exact ⟨h.1, ih⟩
    · exact ih
theorem TS.pre {w : World} {x d l : Addr} {n : Nat} {rows : List Row} {R P Z own : List (Addr × Obj)} (h : TS w x d l n rows R P Z) (ap : Apart own ((l, W.listOf (rows.map Row.ref).toArray n) :: R)) : TS w x d l n rows (own ++ R) (own ++ P) Z := by
  refine ⟨h.tab.mono fun p hp => ?_, fun p hp => ?_, ?_, h.tz, fun p hp q hq => ?_⟩
  · rcases List.mem_cons.mp hp with rfl | hp
    · exact .head _
    · exact .tail _ (List.mem_append_right _ hp)
  · rcases List.mem_append.mp hp with hp | hp
    · exact Ne.symm (ap p hp _ (.head _))
    · exact h.off p hp
  · rw [h.split.eq, ← List.append_assoc]
    exact .app
  · rcases List.mem_append.mp hp with hp | hp
    · exact ap p hp q (.tail _ (h.sub.2 q hq))
    · exact h.ap p hp q hq
theorem TS.swap {w : World} {x d l : Addr} {n : Nat} {rows : List Row} {R P Z R' P' Z' : List (Addr × Obj)} (h : TS w x d l n rows R P Z) (h' : TS w x d l n rows R' P' Z') (hs : ∀ p ∈ P, p ∈ P') : TS w x d l n rows (P ++ Z') P Z' := by
  refine ⟨h.tab, fun p hp => ?_, .app, h'.tz, fun p hp => h'.ap p (hs p hp)⟩
  rcases List.mem_append.mp hp with hp | hp
  · exact h.off p (h.sub.1 p hp)
  · exact h'.off p (h'.sub.2 p hp)
theorem wdB_wd {k : List Nat} (h : wdB k = true) : Wd k := by
  unfold wdB at h
  simp only [Bool.and_eq_true, decide_eq_true_eq, List.all_eq_true, Bool.not_eq_true'] at h
  exact ⟨h.1.1, h.1.2⟩
theorem stApp {a b : List Nat} : (st a).cps ++ (st b).cps = (st (a ++ b)).cps := by simp [st]
theorem notList {lp a : Addr} {its : Array Value} {n : Nat} {o : Obj} {P B : List (Addr × Obj)} (hp : (a, o) ∈ P) (h1 : ∀ p ∈ P, p = (lp, W.listOf its n) ∨ p ∈ B) (h : o.cls ≠ .type "list") : (a, o) ∈ B := by
  rcases h1 _ hp with e | e
  · exact absurd (congrArg (fun p : Addr × Obj => p.2.cls) e) h
  · exact e
theorem TS.drop {w : World} {x d l lp : Addr} {n n' : Nat} {rows : List Row} {its : Array Value} {R P Z B : List (Addr × Obj)} (h : TS w x d l n rows R P Z) (h1 : ∀ p ∈ P, p = (lp, W.listOf its n') ∨ p ∈ B) (h2 : ∀ p ∈ B, p ∈ P) : TS w x d l n rows (B ++ Z) B Z := by
  obtain ⟨t1, ⟨t, t2⟩, t3⟩ := Tab.old h.tab
  refine ⟨⟨.tail _ (notList t1 h1 (by intro e; cases e)), ⟨t, .tail _ (notList t2 h1 (by intro e; simp [dictOf] at e))⟩, .head _, fun r hr => .tail _ (notList (t3 r hr) h1 (by intro e; simp at e)), h.tab.ok⟩, fun p hp => ?_, .app, h.tz, fun p hp => h.ap p (h2 p hp)⟩
  rcases List.mem_append.mp hp with hp | hp
  · exact h.off p (h.sub.1 p (h2 p hp))
  · exact h.off p (h.sub.2 p hp)
section
variable {prog : Program} {w : World} {A : Around} {E : Value → Shared → Prop} {s : Shared} {Q : Value → Shared → Prop}
theorem add_st {a b : List Nat} {t u : Tok} (ha : a.length ≤ 200) (hb : b.length ≤ 200) (h : ∀ t' tk, Q (.str (st (a ++ b)) t') { s with toks := tk }) : wpAny (model prog w) A (binaryOp .Add (.str (st a) t) (.str (st b) u)) Q E s := by
  have e : st a ++ st b = st (a ++ b) := by
    show Str.mk ((st a).cps ++ (st b).cps) = _
    rw [stApp]
  exact add_str (hsz := by rw [sizeLine_eq, st_len, st_len]; omega) fun t' tk => e ▸ h t' tk
end
theorem kw49 : True := by
  k_with "binaryOp Add str str" => (k_here; (with_reducible show wpAny _ _ (binaryOp Operator.Add (Value.str (st _) _) (Value.str (st _) _)) _ _ _); (refine add_st (by assumption) (by assumption) ?_); intro _ _)
  exact True.intro
theorem Num.bound {x : Str} {v : Int} (h : Num x v) : 2 ≤ v ∧ v ≤ 128 := num_all (P := fun _ v => 2 ≤ v ∧ v ≤ 128) (by decide +kernel) h
theorem Num.mul {x : Str} {v : Int} (h : Num x v) (a : Int) : IntMulOk a v := by
  have := h.bound
  exact IntMulOk.of_right (intBits_le_64 (by omega) (by omega))
theorem kw50 : True := by
  k_with "subscriptTail Name BinOp ref int" => (k_here; with_reducible refine halt ?_)
  exact True.intro

theorem struck_con {w p loose mean mg mb} {Z : List (Addr × Obj)} {pl dl : Addr} {np nd : Nat} {ps : List (Int × Tok)} {ds : List (Int × Tok)} {good : List PRow → Bool} (hZ : TabZ Z)
    (hps : ∀ q ∈ ps, q.1 = 2 ∨ q.1 = 4 ∨ q.1 = 8 ∨ q.1 = 16) (hlen : ps.length ≤ 3) (hall : allB good 9 (startRows ps) [] = true) (hd48 : dl ≠ 48) (hds : ds.length = 8) (hdr : ∀ q ∈ ds, 0 ≤ q.1 ∧ q.1 < 1000000) (hpl : (pl, W.listOf (ps.map fun q => Value.int q.1 q.2).toArray np) ∈ Z) (hdl : (dl, W.listOf (ds.map fun q => Value.int q.1 q.2).toArray nd) ∈ Z) :
    ConD w p loose mean mg mb 12 120 280 [.ref pl, .ref dl] [] Z (fun r nOut => ∃ a n picks, r = .ref a ∧ PickTab a n picks nOut ∧ good (picks.map PickRow.plain) = true ∧ Has48 nOut ∧ ∀ p ∈ Z, p.1 ≠ 48 → p ∈ nOut) := by
  unfold ConD
  intro dp un gd cn cs a ccd cl outer A₀ base h₀ L m s Q E B F X N T hk hd hu hret
  refine wpAny_call ?_
  refine' code_defM [(Str.ofString "draws", .ref dl), (Str.ofString "prices", .ref pl)] ?k1 ?k2 ?k3 ?k4 ?k5 ?kA ?kF ?kK ?k6 ?k7 ?k8 ?k9 ?kR ?kB ?_ ?c2 ?c3 ?c4 ?c5
  walk_at "mine sides"
  k_steps
  refine Halt.mk ?_
  refine' for_empty ?F ?N rfl rfl (l := _) ?m ?he ?fin
  case F => k_asm
  case N => k_asm
  case m => exact .head _
  case he =>
    k_steps
    exact ItAt.intro (by k_asm) (by k_asm) ⟨rfl, rfl⟩
  case fin =>
    intro h1 tk1 F1 N1
    dsimp only
    k_steps
    refine Halt.mk ?_
    rename Fr _ _ _ _ => F2
    rename News _ _ _ _ => N2
    refine' for_feed (n := min (Str.ofString "abc").cps.size (ps.map fun q => Value.int q.1 q.2).toArray.size) (Item := ZipItem (signP (Str.ofString "abc")) (fun i v => (ps.map fun q => Value.int q.1 q.2).toArray[i]? = some v)) (S := fun news => (∀ p ∈ ([] : List (Addr × Obj)), p ∈ news) ∧ ∀ p ∈ [(pl, W.listOf (ps.map fun q => Value.int q.1 q.2).toArray np)], p ∈ news) F2
      (fun i m' news' => ∃ xv dv lv, m' (Str.ofString "table") = some (.ref xv) ∧ m' (Str.ofString "draws") = some (.ref dl) ∧ ∃ n rows R P, news' = (lv, W.listOf (rows.map Row.ref).toArray n) :: R ∧ TS w xv dv lv n rows R P Z ∧ Rep rows ((startRows ps).take i)) ?he ?turn ?fin
    case he =>
      k_steps
      rename Fr _ _ _ _ => F3
      rename News _ _ _ _ => N3
      refine zip_call (x := Str.ofString "abc") (rd := [(pl, W.listOf (ps.map fun q => Value.int q.1 q.2).toArray np)]) (by decide +kernel) src_list F3 N3 ?hr fun h4 b F4 N4 lt4 => ?_
      case hr =>
        refine List.forall_mem_cons.mpr ⟨?_, List.forall_mem_nil _⟩
        k_mem
      have hb : pl ≠ b + 1 := Nat.ne_of_lt (Nat.lt_succ_of_lt (lt4 (pl, _) (by k_mem)))
      refine zipFeedAt (sub_str rfl _ _ _) (sub_list rfl _ _ hb _ _) ⟨_, _, rfl⟩ F4 N4 (fun p hp => List.mem_append_left _ hp) (fun p hp => List.mem_append_right _ hp) ⟨rfl, rfl⟩ ⟨rfl, rfl⟩ (List.forall_mem_nil _) ?r2 lt4 ?hJ
      case r2 =>
        refine List.forall_mem_cons.mpr ⟨?_, List.forall_mem_nil _⟩
        k_mem
      case hJ =>
        refine' ⟨_, _, _, rfl, rfl, 0, [], _, _, rfl, ⟨⟨?i, ⟨_, ?d⟩, ?l, ?o, ?k⟩, ?off, ?sp, ?tz, ?ap⟩, trivial⟩
        case sp => k_extra "mine split"
        case d => k_extra "mine m"
        case i => k_extra "mine m"
        case l => k_extra "mine m"
        case o => intro r hr; cases hr
        case k => intro r hr; cases hr
        case off => first | k_all | fail "off"
        case tz => exact hZ
        case ap => refine List.forall_mem_cons.mpr ⟨?_, List.forall_mem_cons.mpr ⟨?_, List.forall_mem_nil _⟩⟩ <;> k_extra "mine all"
    case turn =>
      clear F1 N1 F2 N2
      intro i v own ex m₁ news₁ h5 tk5 hi it hJ hS ap5 F₁ N₁
      obtain ⟨xv, dv, lv, ht1, ht2, n, rows, R, P, rfl, hTS, hRep⟩ := hJ
      obtain ⟨vx, vy, T5, ⟨c, u, hc, rfl⟩, hy, rfl, rfl⟩ := it
      have F₂ := frKnowL [(Str.ofString "table", .ref xv), (Str.ofString "draws", .ref dl)] F₁ (by simpa using ⟨ht1, ht2⟩)
      clear F₁
      rw [List.getElem?_toArray, List.getElem?_map] at hy
      obtain ⟨q, hq, rfl⟩ := Option.map_eq_some_iff.mp hy
      obtain ⟨R5, hR5⟩ : ∃ R5, R5 = (T5, pairObj (.str ⟨#[c]⟩ u) (.int q.1 q.2)) :: (own ++ R) := ⟨_, rfl⟩
      have N₂ : News _ _ h5 ((lv, W.listOf (rows.map Row.ref).toArray n) :: R5) := newsSub N₁ fun p hp => by
        subst hR5
        simp only [List.mem_cons, List.mem_append, List.nil_append, List.cons_append] at hp ⊢
        rcases hp with hp | hp | hp | hp <;> simp [hp]
      have hT5l : T5 ≠ lv := fun e => by
        have e1 := (N₂ (T5, pairObj (.str ⟨#[c]⟩ u) (.int q.1 q.2)) (by rw [hR5]; simp)).1
        have e2 := (N₂ (lv, W.listOf (rows.map Row.ref).toArray n) (.head _)).1
        simp only [e] at e1
        rw [e2] at e1
        simp at e1
      clear N₁
      have hT5 : Tab w xv dv lv n rows ((lv, W.listOf (rows.map Row.ref).toArray n) :: R5) := hTS.tabR.mono fun p hp => by
        subst hR5
        rcases List.mem_cons.mp hp with rfl | hp
        · exact .head _
        · exact .tail _ (.tail _ (List.mem_append_right _ hp))
      have hoff5 : ∀ p ∈ R5, p.1 ≠ lv := by
        subst hR5
        intro p hp
        rcases List.mem_cons.mp hp with rfl | hp
        · exact hT5l
        · rcases List.mem_append.mp hp with hp | hp
          · exact Ne.symm (ap5 p hp (lv, W.listOf (rows.map Row.ref).toArray n) (by simp))
          · exact hTS.off p hp
      have hT6 : (T5, pairObj (.str ⟨#[c]⟩ u) (.int q.1 q.2)) ∈ R5 := by rw [hR5]; exact .head _
      have hcs : (⟨#[c]⟩ : Str) = st [c] := rfl
      rw [hcs] at hT6
      have hi3 : i < 3 := Nat.lt_of_lt_of_le hi (Nat.min_le_left _ _)
      have hc3 : c = 97 + i := by
        have h0 : (Str.ofString "abc").cps = #[97, 98, 99] := by decide +kernel
        rw [h0] at hc
        match i, hi3, hc with
        | 0, _, hc => simpa using hc.symm
        | 1, _, hc => simpa using hc.symm
        | 2, _, hc => simpa using hc.symm
      have hw5 : Wd [c] := ⟨by simp, by intro z hz; rw [List.mem_singleton.mp hz, hc3]; unfold isLet; simp; omega⟩
      have hno5 : findR rows ([c].map low) = none := hRep.none (by rw [hc3]; exact start_not hi3)
      have hrl := hRep.length
      rw [List.length_take] at hrl
      have hsz5 : (rows.map Row.ref).toArray.size ≤ sizeLine := by rw [sizeLine_eq]; simp; omega
      obtain ⟨hin, ⟨tkh, hdi⟩, hli, hro, hok⟩ := id hT5
      have hq5 : NumV q.1 := NumV.ofPrice (hps q (List.mem_of_getElem? hq))
      k_steps
      rename Fr _ _ _ _ => F9
      rename News _ _ _ _ => N9
      rename (∃ q : Row, _) => hpost
      obtain ⟨qr, hk9, hv9, lt9, rfl⟩ := hpost
      have hsub9 : ∀ p ∈ own, p ∈ R5 := fun p hp => by rw [hR5]; exact .tail _ (List.mem_append_left _ hp)
      have hsubR : ∀ p ∈ R, p ∈ R5 := fun p hp => by rw [hR5]; exact .tail _ (List.mem_append_right _ hp)
      refine FeedEnd.intro (news' := (lv, W.listOf ((rows ++ [qr]).map Row.ref).toArray (n + 1)) :: (qr.a, qr.obj) :: R) F9 N9 (fun p hp => .tail _ (.tail _ (hsub9 p hp))) (fun p hp => ?_) ?_ ?_ ⟨xv, dv, lv, rfl, rfl, n + 1, rows ++ [qr], (qr.a, qr.obj) :: R, (qr.a, qr.obj) :: P, rfl, ?_, ?_⟩
      · rcases List.mem_cons.mp hp with rfl | hp
        · exact .tail _ (.head _)
        · rcases List.mem_cons.mp hp with rfl | hp
          · exact .head _
          · exact .tail _ (.tail _ (hsubR p hp))
      · intro p hp q9 hq9
        rcases List.mem_cons.mp hq9 with rfl | hq9
        · exact ap5 p hp (lv, W.listOf (rows.map Row.ref).toArray n) (by simp)
        · rcases List.mem_cons.mp hq9 with rfl | hq9
          · exact Nat.ne_of_gt (lt9 p (.tail _ (hsub9 p hp)))
          · exact ap5 p hp q9 (by simp [hq9])
      · refine ⟨List.forall_mem_nil _, List.forall_mem_cons.mpr ⟨?_, List.forall_mem_nil _⟩⟩
        exact .tail _ (.tail _ (by rw [hTS.split.eq]; exact List.mem_append_right _ hpl))
      · refine hTS.step ⟨by rw [hk9]; exact hw5⟩ fun p hp => lt9 p ?_
        rcases List.mem_cons.mp hp with rfl | hp
        · exact .head _
        · exact .tail _ (hsubR p hp)
      · rw [List.take_add_one, start_at hq]
        refine hRep.snoc (by rw [hk9, hc3]) ?_
        rw [hv9]
        have h9 := hq5
        rw [Int.toNat_of_nonneg hq5.nonneg]
        assumption
    case fin =>
      clear F1 N1 F2 N2
      intro m₁ news₁ h6 tk6 hJ F₁ N₁
      obtain ⟨xv, dv, lv, ht1, ht2, n, rows, R, P, rfl, hTS, hRep⟩ := hJ
      have F₂ := frKnowL [(Str.ofString "table", .ref xv), (Str.ofString "draws", .ref dl)] F₁ (by simpa using ⟨ht1, ht2⟩)
      clear F₁
      dsimp only
      k_steps
      refine Halt.mk ?_
      rename Fr _ _ _ _ => F7
      rename News _ _ _ _ => N7
      refine' while_inv (WInv w Z dl good) 9 F7 N7 ?start ?turn
      case start =>
        rename (_ ∧ AllLt _ _) => l9
        have l9c := allLtMem l9.2
        refine ⟨(lv, W.listOf (rows.map Row.ref).toArray n) :: (_, W.listOf (([] : List PickRow).map PickRow.ref).toArray 0) :: R, ?_, xv, dv, lv, _, n, 0, rows, [], R, P, Z, startRows ps, rfl, rfl, rfl, rfl, hTS, Nat.ne_of_gt l9.1, fun p hp => Nat.ne_of_lt (l9c p hp), List.forall_mem_nil _, fun p hp _ => hp, ?_, hall, ?_, rfl⟩
        intro p hp
        · rcases List.mem_cons.mp hp with rfl | hp
          · exact .tail _ (.head _)
          · rcases List.mem_cons.mp hp with rfl | hp
            · exact .head _
            · exact .tail _ (.tail _ hp)
        · have h0 : (Str.ofString "abc").cps = #[97, 98, 99] := by decide +kernel
          rw [h0] at hRep
          have hl0 : (startRows ps).length = ps.length := by unfold startRows; simp
          rw [List.take_of_length_le (by rw [hl0]; simp; omega)] at hRep
          exact hRep
        · have hl0 : (startRows ps).length = ps.length := by unfold startRows; simp
          rw [hl0]
          omega
      case turn =>
        intro k m₂ news₂ h8 tk8 dr8 hI F₃ N₃
        obtain ⟨xv, dv, lv, lp, n, np, rows, picks, R, P, Z', prs, ht1, ht2, ht3, rfl, hTSa, hlpv, hoffp, hpo, hZk, hRep, hall, hle, hpk⟩ := hI
        have F₄ := frKnowL [(Str.ofString "table", .ref xv), (Str.ofString "draws", .ref dl), (Str.ofString "picks", .ref lp)] F₃ (by simpa using ⟨ht1, ht2, ht3⟩)
        clear F₃
        have hTS := hTSa.pushA (o := W.listOf (picks.map PickRow.ref).toArray np) hlpv hoffp
        have hT8 := hTS.tabR
        obtain ⟨hin, ⟨tkh, hdi⟩, hli, hro, hok⟩ := id hTS.tabR
        have hrl := hRep.length
        have hsz8 : (rows.map Row.ref).toArray.size ≤ sizeLine := by
          rw [sizeLine_eq]
          simp
          omega
        have hsz8p : (picks.map PickRow.ref).toArray.size ≤ sizeLine := by
          rw [sizeLine_eq]
          simp
          omega
        have hsz8d : (ds.map fun q => Value.int q.1 q.2).toArray.size ≤ sizeLine := by
          rw [sizeLine_eq]
          simp
          omega
        have hdlR : (dl, W.listOf (ds.map fun q => Value.int q.1 q.2).toArray nd) ∈ R := by
          have h1 := hZk _ hdl hd48
          have h2 := hTS.split.eq
          have h3 : (dl, W.listOf (ds.map fun q => Value.int q.1 q.2).toArray nd) ∈ (lp, W.listOf (picks.map PickRow.ref).toArray np) :: R := by
            rw [h2]
            exact List.mem_append_right _ h1
          rcases List.mem_cons.mp h3 with e | h4
          · have := hTS.ap _ (.head _) _ h1
            exact absurd (congrArg Prod.fst e) this
          · exact h4
        k_steps
        · rename (_ = (0 : Int)) => hz
          have hr0 : rows = [] := by simpa using hz
          subst hr0
          have hp0 : prs = [] := List.eq_nil_of_length_eq_zero hrl.symm
          subst hp0
          have hg : good (picks.map PickRow.plain) = true := by
            cases k with
            | zero => cases hall
            | succ k => simpa [allB] using hall
          refine hret _ _ _ _ _ ⟨lp, np, picks, rfl, ⟨.tail _ (.head _), fun r hr => .tail _ (hTS.sub.1 _ (.tail _ (hpo r hr)))⟩, hg, hTS.tz.has.mono fun p hp => .tail _ (hTS.sub.2 p hp), fun p hp hn => .tail _ (hTS.sub.2 p (hZk p hp hn))⟩ (by k_asm) (by k_asm)
        · exfalso
          rename (_ = (0 : Int)) => hz
          simp [hds] at hz
        refine Halt.mk ?_
        rename News _ _ _ _ => N9
        rename (∀ p ∈ (_ :: _ :: R), Prod.fst p < _) => lt9
        obtain ⟨q, hq⟩ : ∃ q, ds[picks.length % 8]? = some q := ⟨_, List.getElem?_eq_getElem (by rw [hds]; exact Nat.mod_lt _ (by decide))⟩
        obtain ⟨hq0, hq1⟩ := hdr q (List.mem_of_getElem? hq)
        obtain ⟨qn, hqn⟩ := Int.eq_ofNat_of_zero_le hq0
        refine item_list (l := dl) (x := .int q.1 q.2) (N9.isList (n := nd) (by k_mem)) ?h0 ?h1 ?h2 ?_
        case h0 => rw [fmod_at]; exact Int.natCast_nonneg _
        case h1 =>
          rw [fmod_at]
          simp only [List.size_toArray, List.length_map, hds]
          have := Nat.mod_lt picks.length (show 8 > 0 by decide)
          omega
        case h2 =>
          rw [fmod_at, Int.toNat_natCast, List.getElem?_toArray, List.getElem?_map]
          simp only [List.size_toArray, List.length_map, hds]
          rw [hq]
          rfl
        k_steps
        refine Halt.mk ?_
        rename (¬ (((rows.map Row.ref).toArray.size : Int) = 0)) => hz
        have hn0 : rows.length ≠ 0 := by simpa using hz
        obtain ⟨r, hr⟩ : ∃ r, rows[qn % rows.length]? = some r := ⟨_, List.getElem?_eq_getElem (Nat.mod_lt _ (Nat.pos_of_ne_zero hn0))⟩
        have hrm := List.mem_of_getElem? hr
        have hro9 := hro r hrm
        obtain ⟨pr, hpr, hrk, hnum⟩ := hRep.at hr
        refine item_list (x := Row.ref r) (N9.isList (n := 0) (.head _)) ?g0 ?g1 ?g2 ?_
        case g0 => rw [hqn, List.size_toArray, List.length_map]; rw [fmod_at]; exact Int.natCast_nonneg _
        case g1 =>
          rw [hqn, List.size_toArray, List.length_map]; rw [fmod_at]
          have := Nat.mod_lt qn (Nat.pos_of_ne_zero hn0)
          omega
        case g2 =>
          rw [hqn, List.size_toArray, List.length_map]; rw [fmod_at, Int.toNat_natCast, List.getElem?_toArray, List.getElem?_map, hr]
          rfl
        dsimp only [Row.ref]
        k_steps
        refine Halt.mk ?_
        rename News _ _ _ _ => N10
        rename Fr _ _ _ _ => F10
        have hTS9 := hTS.push (o := W.listOf (rows.map Row.ref).toArray 0) lt9
        refine' ConD.use (ifs_TS hTS9 hnum) ?B F10 ?X (newsSub N10 fun p hp => ?sub) ?T ?hk ?hd ?hu ?_
        case sub =>
          rcases List.mem_cons.mp hp with rfl | hp
          · exact .tail _ (.head _)
          · rcases List.mem_cons.mp hp with rfl | hp
            · exact .head _
            · exact .tail _ (.tail _ hp)
        case B => k_asm
        case X => k_asm
        case T => k_asm
        case hk => first | exact rfl | assumption
        case hd => ktr_room
        case hu => ktr_units
        intro v9 nOut h9 tk9 dr9 hpost F11 N11
        obtain ⟨⟨tv, hv9⟩, Z9, ho9, hTS10, hK9⟩ := hpost
        subst hv9
        subst ho9
        clear N10 F10 hin hdi hli hro hro9 hT8 hdlR
        obtain ⟨hin, ⟨tkh, hdi⟩, hli, hro, hok⟩ := id hTS10.tabR
        have hro9 := hro r hrm
        dsimp only
        k_steps
        refine Halt.mk ?_
        rename News _ _ _ _ => N12
        rename Fr _ _ _ _ => F12
        refine' Con.use (del_con hTS10.tabR hTS10.off (hok r hrm).wd (by omega)) ?B F12 ?X N12 ?T ?hk ?hd ?hu ?_
        case B => k_asm
        case X => k_asm
        case T => k_asm
        case hk => first | exact rfl | assumption
        case hd => ktr_room
        case hu => ktr_units
        intro v13 nOut h13 tk13 hpost F13 N13
        obtain ⟨n13, ho13⟩ := hpost
        subst ho13
        obtain ⟨rows1, hrows1⟩ : ∃ rows1, rows1 = rows.filter fun q => q.k.map low != r.k.map low := ⟨_, rfl⟩
        rw [← hrows1] at N13
        have hTS13 : TS w xv dv lv n13 rows1 _ _ Z9 := hrows1 ▸ hTS10.filter (n' := n13)
        have N14 : News _ _ _ ((lv, W.listOf (rows1.map Row.ref).toArray n13) :: (_, W.listOf (rows.map Row.ref).toArray 0) :: (lp, W.listOf (picks.map PickRow.ref).toArray np) :: (P ++ Z9)) := N13
        clear N13 N12 F12
        dsimp only
        k_steps
        rename News _ _ _ _ => N15
        rename Fr _ _ _ _ => F15
        rename (∀ p ∈ (_ : List (Addr × Obj)), Prod.fst p < _) => lt15
        have hoff15 : ∀ p ∈ P ++ Z9, p.1 ≠ lp := by
          intro p hp
          rcases List.mem_append.mp hp with hp | hp
          · exact hoffp p (hTSa.sub.1 p hp)
          · exact hTS13.ap (lp, W.listOf (picks.map PickRow.ref).toArray np) (.tail _ (.head _)) p hp
        refine' append_K F15 N15 (Upd.tail (Nat.ne_of_gt (lt15 (lp, W.listOf (picks.map PickRow.ref).toArray np) (.tail _ (.tail _ (.head _))))) (Upd.tail (Ne.symm hlpv) (Upd.tail (Nat.ne_of_gt (lt9 (lp, W.listOf (picks.map PickRow.ref).toArray np) (.tail _ (.head _)))) (Upd.head hoff15)))) ?_ hsz8p
        intro h16 F16 N16
        obtain ⟨pn, ra, hpn, hra1, hra2, lt16, N17⟩ : ∃ (pn : PickRow) (ra : Addr), pn.plain = (r.k, pr.2) ∧ (∀ p ∈ (lv, W.listOf (rows.map Row.ref).toArray n) :: (lp, W.listOf (picks.map PickRow.ref).toArray np) :: R, @LT.lt Nat _ p.1 ra) ∧ (∀ q ∈ Z9, q.1 ≠ ra) ∧ (∀ p ∈ (lv, W.listOf (rows1.map Row.ref).toArray n13) :: (ra, W.listOf (rows.map Row.ref).toArray 0) :: (lp, W.listOf (picks.map PickRow.ref).toArray np) :: (P ++ Z9), @LT.lt Nat _ p.1 pn.a) ∧
            News _ _ _ ((pn.a, pn.obj) :: (lv, W.listOf (rows1.map Row.ref).toArray n13) :: (ra, W.listOf (rows.map Row.ref).toArray 0) :: (lp, W.listOf ((picks ++ [pn]).map PickRow.ref).toArray (np + 1)) :: (P ++ Z9)) :=
          ⟨⟨_, r.k, r.tk, pr.2, tv⟩, _, rfl, lt9, hTS13.ap _ (.head _), lt15, by simpa using N16⟩
        clear N16 N15 F15 lt15
        have hTS14 : TS w xv dv lv n13 rows1 (P ++ Z9) P Z9 := (hrows1 ▸ hTSa.filter (n' := n13)).swap hTS13 fun p hp => .tail _ (.tail _ hp)
        have hTS15 := hTS14.pushA (o := W.listOf ((picks ++ [pn]).map PickRow.ref).toArray (np + 1)) hlpv hoff15
        have hTS16 := hTS15.pushA (D := ra) (o := W.listOf (rows.map Row.ref).toArray 0) (Nat.ne_of_gt (hra1 _ (.head _))) fun p hp => by
          rcases List.mem_cons.mp hp with rfl | hp
          · exact Nat.ne_of_lt (hra1 (lp, W.listOf (picks.map PickRow.ref).toArray np) (.tail _ (.head _)))
          · rcases List.mem_append.mp hp with hp | hp
            · exact Nat.ne_of_lt (hra1 _ (.tail _ (.tail _ (hTSa.sub.1 p hp))))
            · exact hra2 p hp
        have hTS17 := hTS16.pushA (D := pn.a) (o := pn.obj) (Nat.ne_of_gt (lt16 _ (.head _))) fun p hp => by
          rcases List.mem_cons.mp hp with rfl | hp
          · exact Nat.ne_of_lt (lt16 (ra, W.listOf (rows.map Row.ref).toArray 0) (.tail _ (.head _)))
          · rcases List.mem_cons.mp hp with rfl | hp
            · exact Nat.ne_of_lt (lt16 (lp, W.listOf (picks.map PickRow.ref).toArray np) (.tail _ (.tail _ (.head _))))
            · exact Nat.ne_of_lt (lt16 p (.tail _ (.tail _ (.tail _ hp))))
        have huq : Uniq lp (W.listOf ((picks ++ [pn]).map PickRow.ref).toArray (np + 1)) _ := (((Uniq.mk1 fun p hp => hoff15 p (List.mem_append_left _ hp)).cons (q := (ra, W.listOf (rows.map Row.ref).toArray 0)) (Nat.ne_of_gt (hra1 (lp, W.listOf (picks.map PickRow.ref).toArray np) (.tail _ (.head _))))).cons (q := (pn.a, pn.obj)) (Nat.ne_of_gt (lt16 (lp, W.listOf (picks.map PickRow.ref).toArray np) (.tail _ (.tail _ (.head _))))))
        have N18 : News _ _ _ ((lv, W.listOf (rows1.map Row.ref).toArray n13) :: (pn.a, pn.obj) :: (ra, W.listOf (rows.map Row.ref).toArray 0) :: (lp, W.listOf ((picks ++ [pn]).map PickRow.ref).toArray (np + 1)) :: (P ++ Z9)) := newsSub N17 fun p hp => by
          rcases List.mem_cons.mp hp with rfl | hp
          · exact .tail _ (.head _)
          · rcases List.mem_cons.mp hp with rfl | hp
            · exact .head _
            · exact .tail _ (.tail _ hp)
        clear N17
        dsimp only
        k_steps
        refine Halt.mk ?_
        rename News _ _ _ _ => N20
        rename Fr _ _ _ _ => F20
        obtain ⟨k', hk'⟩ : ∃ k', k = k' + 1 := by
          cases k with
          | zero => cases hall
          | succ k => exact ⟨k, rfl⟩
        subst hk'
        obtain ⟨prest, hprest⟩ : ∃ prest, prest = prs.filter fun q => q.1.map low != pr.1.map low := ⟨_, rfl⟩
        have hRep1 : Rep rows1 prest := by rw [hrows1, hprest, ← hrk]; exact hRep.filter
        obtain ⟨fin0, hpass, hall'⟩ : ∃ fin0, passB pr prest prest = some fin0 ∧ allB good k' fin0 ((picks ++ [pn]).map PickRow.plain) = true := by
          have hne : prs.isEmpty = false := by
            cases prs with
            | nil => simp at hpr
            | cons => rfl
          unfold allB at hall
          rw [hne] at hall
          simp only [Bool.false_eq_true, if_false] at hall
          rw [List.all_eq_true] at hall
          have h1 := hall (qn % rows.length) (List.mem_range.mpr (by rw [← hrl]; exact Nat.mod_lt _ (Nat.pos_of_ne_zero hn0)))
          unfold strikeB at h1
          rw [hpr] at h1
          dsimp only at h1
          rw [← hprest] at h1
          cases hp : passB pr prest prest with
          | none => rw [hp] at h1; cases h1
          | some f0 =>
            rw [hp] at h1
            refine ⟨f0, rfl, ?_⟩
            rw [List.map_append, List.map_cons, List.map_nil, hpn, hrk]
            exact h1
        have hle1 : prest.length ≤ 900 := by
          rw [hprest]
          exact Nat.le_trans (List.length_filter_le _ _) hle
        refine' for_feedD (n := (rows1.map Row.ref).toArray.size) (Item := fun i v ex => (rows1.map Row.ref).toArray[i]? = some v ∧ ex = []) (S := fun _ => True) F20 (fun i => JFor w Z xv dv dl lv lp (W.listOf ((picks ++ [pn]).map PickRow.ref).toArray (np + 1)) r pr tv (picks ++ [pn]) rows1 good k' (prest.drop i)) ?he ?turn ?fin
        case he =>
          clear hin hdi hli hro hok
          obtain ⟨hin, ⟨tkh, hdi⟩, hli, hro, hok⟩ := id hTS17.tabR
          have hT20 := hTS17.tabR
          have hsz20 : (rows1.map Row.ref).toArray.size ≤ sizeLine := by
            have := hRep1.length
            rw [sizeLine_eq]
            simp
            omega
          k_steps
          refine Halt.mk ?_
          rename News _ _ _ _ => N21
          rename Fr _ _ _ _ => F21
          rename (∀ p ∈ (_ :: _ :: _ :: _ :: (P ++ Z9)), Prod.fst p < _) => lt21
          refine listFeedOwn rfl ⟨_, _, rfl⟩ F21 N21 (fun p hp => hp) (fun p hp => Nat.ne_of_lt (lt21 p hp)) ?_
          refine ⟨n13, rows1, _, _, Z9, prest, fin0, rfl, ⟨rfl, rfl, rfl, rfl, rfl, hTS17, fun p hp hn => hK9.old p (hZk p hp hn) hn, ?_, huq, hRep1, ⟨[], by simp⟩, hle1⟩, hpass, hall'⟩
          intro q hq
          rcases List.mem_append.mp hq with hq | hq
          · exact .tail _ (.tail _ (.tail _ (hpo q hq)))
          · rw [List.mem_singleton.mp hq]
            exact .head _
        case turn =>
          intro i v own ex m₃ news₃ h22 tk22 dr22 hi it hJ hS ap F₅ N₅
          obtain ⟨n3, rows3, R3, P3, Z3, prs3, fin3, rfl, hJI, hp3, ha3⟩ := hJ
          obtain ⟨hv, rfl⟩ := it
          rw [List.getElem?_toArray, List.getElem?_map] at hv
          obtain ⟨q3, hq3, rfl⟩ := Option.map_eq_some_iff.mp hv
          have F₆ := frKnowL [(Str.ofString "table", .ref xv), (Str.ofString "draws", .ref dl), (Str.ofString "picks", .ref lp), (Str.ofString "pick", .str (st r.k) r.tk), (Str.ofString "worth", .int (pr.2 : Int) tv)] F₅ (by simpa using ⟨hJI.m1, hJI.m2, hJI.m3, hJI.m4, hJI.m5⟩)
          clear F₅
          have ap3 : Apart own ((lv, W.listOf (rows3.map Row.ref).toArray n3) :: R3) := ap
          have N₆ : News _ _ h22 ((lv, W.listOf (rows3.map Row.ref).toArray n3) :: (own ++ R3)) := newsSub N₅ fun p hp => by
            simp only [List.mem_cons, List.mem_append, List.nil_append] at hp ⊢
            rcases hp with hp | hp | hp <;> simp [hp]
          clear N₅
          have hTSo := hJI.ts.pre ap3
          clear hin hdi hli hro hok
          obtain ⟨hin, ⟨tkh, hdi⟩, hli, hro, hok⟩ := id hTSo.tabR
          obtain ⟨e3, he3⟩ := hJI.ext
          have hq3m : q3 ∈ rows3 := by
            rw [he3]
            exact List.mem_append_left _ (List.mem_of_getElem? hq3)
          have hroq := hro q3 hq3m
          obtain ⟨pq, hpq, hqk, hqn⟩ := hRep1.at hq3
          have hmul : IntMulOk (pq.2 : Int) (pr.2 : Int) := hnum.mul _
          have hlr : r.k.length ≤ 200 := Nat.le_trans (hTS10.tab.ok r hrm).wd.short (by decide)
          have hlq : q3.k.length ≤ 200 := Nat.le_trans (hok q3 hq3m).wd.short (by decide)
          dsimp only [Row.ref]
          k_steps
          refine Halt.mk ?_
          rename News _ _ _ _ => N23
          rename Fr _ _ _ _ => F23
          refine' ConD.use (ifs_TS hTSo hqn) ?B F23 ?X N23 ?T ?hk ?hd ?hu ?_
          case B => k_asm
          case X => k_asm
          case T => k_asm
          case hk => first | exact rfl | assumption
          case hd => ktr_room
          case hu => ktr_units
          intro v24 nOut h24 tk24 dr24 hpost F24 N24
          obtain ⟨⟨t24, hv24⟩, Z24, ho24, hTS24, hK24⟩ := hpost
          subst hv24
          subst ho24
          clear N23 F23 hin hdi hli hro hok hroq
          have hTS25 := hJI.ts.swap hTS24 fun p hp => List.mem_append_right _ hp
          have ap25 : Apart own ((lv, W.listOf (rows3.map Row.ref).toArray n3) :: (P3 ++ Z24)) := by
            intro p hp q hq
            rcases List.mem_cons.mp hq with rfl | hq
            · exact ap3 p hp _ (.head _)
            · rcases List.mem_append.mp hq with hq | hq
              · exact ap3 p hp q (.tail _ (hJI.ts.sub.1 q hq))
              · exact hTS24.ap p (List.mem_append_left _ hp) q hq
          have N25 : News _ _ _ ((lv, W.listOf (rows3.map Row.ref).toArray n3) :: (own ++ (P3 ++ Z24))) := newsSub N24 fun p hp => by
            rw [List.append_assoc]
            exact hp
          clear N24
          dsimp only
          k_steps
          refine Halt.mk ?_
          rename News _ _ _ _ => N26
          rename Fr _ _ _ _ => F26
          have hdrop : prest.drop i = pq :: prest.drop (i + 1) := by
            obtain ⟨hlt, he⟩ := List.getElem?_eq_some_iff.mp hpq
            rw [List.drop_eq_getElem_cons hlt, he]
          rw [hdrop] at hp3
          unfold passB at hp3
          obtain ⟨prs4, hg, hp3⟩ : ∃ prs4, growB pr 10 prs3 (pq.1 ++ pr.1) (pq.2 * pr.2) = some prs4 ∧ passB pr (prest.drop (i + 1)) prs4 = some fin3 := by
            cases hg : growB pr 10 prs3 (pq.1 ++ pr.1) (pq.2 * pr.2) with
            | none => rw [hg] at hp3; cases hp3
            | some prs4 => rw [hg] at hp3; exact ⟨prs4, rfl, hp3⟩
          refine' while_inv (JWhile w Z xv dv dl lv lp (W.listOf ((picks ++ [pn]).map PickRow.ref).toArray (np + 1)) r pr tv (picks ++ [pn]) rows1 good k' (prest.drop (i + 1)) own) 10 F26 N26 ?wstart ?wturn
          case wstart =>
            refine ⟨_, fun p hp => hp, n3, rows3, P3 ++ Z24, P3, Z24, prs3, pq.1 ++ pr.1, pq.2 * pr.2, _, _, prs4, fin3, rfl, ap25, ⟨rfl, rfl, rfl, rfl, rfl, hTS25, fun p hp hn => hK24.old p (hJI.keep p hp hn) hn, hJI.pko, hJI.uq, hJI.rep, hJI.ext, hJI.le⟩, congrArg (fun z => some (Value.str (st z) _)) (show q3.k ++ r.k = pq.1 ++ pr.1 by rw [hqk, hrk]), congrArg (fun z => some (Value.int z _)) (Int.natCast_mul pq.2 pr.2).symm, hg, hp3, ha3⟩
          case wturn =>
            intro f m₄ news₄ h27 tk27 dr27 hW F₇ N₇
            obtain ⟨n4, rows4, R4, P4, Z4, prs6, kk, pp, tkk, tpp, prs5, fin5, rfl, ap4, hJ4, hl4, hp4, hg4, hps4, ha4⟩ := hW
            have F₈ := frKnowL [(Str.ofString "table", .ref xv), (Str.ofString "draws", .ref dl), (Str.ofString "picks", .ref lp), (Str.ofString "pick", .str (st r.k) r.tk), (Str.ofString "worth", .int (pr.2 : Int) tv), (Str.ofString "longer", .str (st kk) tkk), (Str.ofString "price", .int (pp : Int) tpp)] F₇ (by simpa using ⟨hJ4.m1, hJ4.m2, hJ4.m3, hJ4.m4, hJ4.m5, hl4, hp4⟩)
            clear F₇
            cases f with
            | zero => cases hg4
            | succ f =>
              unfold growB at hg4
              by_cases hpp : pp < 256
              · rw [if_pos hpp] at hg4
                split at hg4
                · rename_i hc
                  simp only [Bool.and_eq_true, Bool.not_eq_true', decide_eq_true_eq, Bool.or_eq_true, beq_iff_eq] at hc
                  obtain ⟨⟨⟨hwd, hno⟩, hlt9⟩, hpv⟩ := hc
                  have hTSo4 := hJ4.ts.pre ap4
                  have hT4 := hTSo4.tabR
                  have hoff4 : ∀ p ∈ own ++ R4, p.1 ≠ lv := hTSo4.off
                  have hw4 : Wd kk := wdB_wd hwd
                  have hno4 : findR rows4 (kk.map low) = none := hJ4.rep.none hno
                  have hrl4 := hJ4.rep.length
                  have hsz4 : (rows4.map Row.ref).toArray.size ≤ sizeLine := by
                    rw [sizeLine_eq]
                    simp
                    omega
                  have hnv4 : NumV (pp : Int) := NumV.ofNat (by assumption)
                  have hmul4 : IntMulOk (pp : Int) (pr.2 : Int) := hnum.mul _
                  have hlk4 : kk.length ≤ 200 := Nat.le_trans hw4.short (by decide)
                  obtain ⟨hin, ⟨tkh, hdi⟩, hli, hro, hok⟩ := id hT4
                  k_steps
                  rename Fr _ _ _ _ => F9
                  rename News _ _ _ _ => N9
                  rename (∃ q : Row, _) => hpost
                  obtain ⟨qr, hk9, hv9, lt8, rfl⟩ := hpost
                  obtain ⟨e4, he4⟩ := hJ4.ext
                  have hqR : ∀ p ∈ R4, @LT.lt Nat _ p.1 qr.a := fun p hp => lt8 p (.tail _ (List.mem_append_right _ hp))
                  have hTS9 := hJ4.ts.step (qr := qr) ⟨by rw [hk9]; exact hw4⟩ (fun p hp => lt8 p (by
                    rcases List.mem_cons.mp hp with rfl | hp
                    · exact .head _
                    · exact .tail _ (List.mem_append_right _ hp)))
                  have hnq : Num qr.v (pp : Int) := by rw [hv9]; assumption
                  show WhileEnd _ _ _ _ _ _
                  refine WhileEnd.intro (j := f) (news' := (lv, W.listOf ((rows4 ++ [qr]).map Row.ref).toArray (n4 + 1)) :: (own ++ ((qr.a, qr.obj) :: R4))) F9 N9 ?_ (Nat.lt_succ_self _) ⟨n4 + 1, rows4 ++ [qr], (qr.a, qr.obj) :: R4, (qr.a, qr.obj) :: P4, Z4, prs6 ++ [(kk, pp)], kk ++ pr.1, pp * pr.2, _, _, prs5, fin5, rfl, ?_, ⟨rfl, rfl, rfl, rfl, rfl, hTS9, hJ4.keep, fun q hq => .tail _ (hJ4.pko q hq), hJ4.uq.cons (Nat.ne_of_gt (hqR _ (hJ4.ts.sub.1 _ hJ4.uq.1))), hJ4.rep.snoc hk9 hnq, ⟨e4 ++ [qr], by rw [he4, List.append_assoc]⟩, ?_⟩, congrArg (fun z => some (Value.str (st z) _)) (show kk ++ r.k = kk ++ pr.1 by rw [hrk]), congrArg (fun z => some (Value.int z _)) (Int.natCast_mul pp pr.2).symm, hg4, hps4, ha4⟩
                  · intro p hp
                    rcases List.mem_cons.mp hp with rfl | hp
                    · exact .tail _ (.head _)
                    · rcases List.mem_append.mp hp with hp | hp
                      · exact .tail _ (.tail _ (List.mem_append_left _ hp))
                      · rcases List.mem_cons.mp hp with rfl | hp
                        · exact .head _
                        · exact .tail _ (.tail _ (List.mem_append_right _ hp))
                  · intro p hp q hq
                    rcases List.mem_cons.mp hq with rfl | hq
                    · exact ap4 p hp (lv, W.listOf (rows4.map Row.ref).toArray n4) (.head _)
                    · rcases List.mem_cons.mp hq with rfl | hq
                      · exact Nat.ne_of_gt (lt8 p (.tail _ (List.mem_append_left _ hp)))
                      · exact ap4 p hp q (.tail _ hq)
                  · rw [List.length_append, List.length_singleton]
                    omega
                · cases hg4
              · rw [if_neg hpp] at hg4
                cases hg4
                k_steps
                rename Fr _ _ _ _ => F9
                rename News _ _ _ _ => N9
                show FeedEndD _ _ _ _ _ _ _
                refine FeedEndD.intro (news' := (lv, W.listOf (rows4.map Row.ref).toArray n4) :: R4) F9 N9 (fun p hp => .tail _ (List.mem_append_left _ hp)) (fun p hp => ?_) ap4 trivial ⟨n4, rows4, R4, P4, Z4, _, fin5, rfl, ⟨rfl, rfl, rfl, rfl, rfl, hJ4.ts, hJ4.keep, hJ4.pko, hJ4.uq, hJ4.rep, hJ4.ext, hJ4.le⟩, hps4, ha4⟩
                rcases List.mem_cons.mp hp with rfl | hp
                · exact .head _
                · exact .tail _ (List.mem_append_right _ hp)
        case fin =>
          intro m₃ news₃ h22 tk22 dr22 hJ F₅ N₅
          obtain ⟨n3, rows3, R3, P3, Z3, prs3, fin3, rfl, hJI, hp3, ha3⟩ := hJ
          have hd3 : prest.drop (rows1.map Row.ref).toArray.size = [] := List.drop_eq_nil_of_le (by have := hRep1.length; simp; omega)
          rw [hd3] at hp3
          unfold passB at hp3
          cases hp3
          obtain ⟨hu0, B, hu1, hu2, hu3⟩ := hJI.uq
          dsimp only
          k_steps
          show WhileEnd _ _ _ _ _ _
          refine WhileEnd.intro (j := k') (news' := (lv, W.listOf (rows3.map Row.ref).toArray n3) :: (lp, W.listOf ((picks ++ [pn]).map PickRow.ref).toArray (np + 1)) :: (B ++ Z3)) F₅ N₅ ?_ (Nat.lt_succ_self _) ⟨xv, dv, lv, lp, n3, np + 1, rows3, picks ++ [pn], B ++ Z3, B, Z3, prs3, hJI.m1, hJI.m2, hJI.m3, rfl, hJI.ts.drop hu1 hu2, hJI.ts.off _ (hJI.ts.sub.1 _ hu0), ?_, ?_, hJI.keep, hJI.rep, ha3, hJI.le, ?_⟩
          · intro p hp
            rcases List.mem_cons.mp hp with rfl | hp
            · exact .head _
            · rcases List.mem_cons.mp hp with rfl | hp
              · exact .tail _ (hJI.ts.sub.1 _ hu0)
              · rcases List.mem_append.mp hp with hp | hp
                · exact .tail _ (hJI.ts.sub.1 p (hu2 p hp))
                · exact .tail _ (hJI.ts.sub.2 p hp)
          · intro p hp
            rcases List.mem_append.mp hp with hp | hp
            · exact hu3 p hp
            · exact hJI.ts.ap (lp, W.listOf ((picks ++ [pn]).map PickRow.ref).toArray (np + 1)) hu0 p hp
          · intro q hq
            exact notList (hJI.pko q hq) hu1 (by intro e; simp at e)
          · rw [List.length_append, List.length_singleton]
            omega

/-- the comprehension of two clauses -/
abbrev lc2 (elt t0 i0 t1 i1 : Expr) (ifs1 : List Expr) (scope : Scope) (pos : Pos) : Expr := .ListComp elt [⟨t0, i0, [], 0⟩, ⟨t1, i1, ifs1, 0⟩] scope pos
theorem compTurn_two0 (elt t0 i0 t1 i1 : Expr) (ifs1 : List Expr) (scope : Scope) (pos : Pos) (it acc : Value) (env : Env) :
    compTurn (lc2 elt t0 i0 t1 i1 ifs1 scope pos) 0 it acc env = (do
      standAt i0.pos
      match ← pyNext it with
      | none => pure (.done .next)
      | some v =>
        letOwnedTupleGo t0 it v
        assign t0 env v
        let x ← eval i1 env
        standAt i1.pos
        let x ← foldedSetIterable i1 env x
        let _ ← runOwn (.compStart (lc2 elt t0 i0 t1 i1 ifs1 scope pos) 1 (← holding [x] (pyIter x)) acc env) env
        again (.compLoop (lc2 elt t0 i0 t1 i1 ifs1 scope pos) 0 it acc env)) := by rfl
theorem compTurn_two1 (elt t0 i0 t1 i1 : Expr) (ifs1 : List Expr) (scope : Scope) (pos : Pos) (it acc : Value) (env : Env) :
    compTurn (lc2 elt t0 i0 t1 i1 ifs1 scope pos) 1 it acc env = (do
      standAt i1.pos
      match ← pyNext it with
      | none => pure (.done .next)
      | some v =>
        letOwnedTupleGo t1 it v
        assign t1 env v
        let mut ok := true
        for c in ifs1 do
          if ok then ok ← isTrue c env (eval c env)
        if ok then
          (do let _ ← call (.builtin "list.append") [acc, ← eval elt env])
        again (.compLoop (lc2 elt t0 i0 t1 i1 ifs1 scope pos) 1 it acc env)) := by rfl
section
variable {prog : Program} {w : World} {A : Around} {E : Value → Shared → Prop} {s : Shared} {env : Env} {h₀ : Heap} {L : Addr}
open PyProof.Rows.LCg (NsObj ns_obj)
theorem compLoop_two1 {elt t0 i0 t1 i1 : Expr} {ifs1 : List Expr} {scope : Scope} {pos : Pos} {it acc : Value} {R : Result → Shared → Prop} (I : Nat → Shared → Prop)
    (turn : ∀ k s, I k s → wpAny (model prog w) A (pyNext it) (fun r s₁ => match r with
      | none => R (.ok .next) s₁
      | some v => wpAny (model prog w) A (letOwnedTupleGo t1 it v) (fun _ s₁' => wpAny (model prog w) A (assign t1 env v) (fun _ s₂ => wpAny (model prog w) A (testsOf env ifs1) (fun ok s₃ =>
          if ok = true then wpAny (model prog w) A (eval elt env) (fun x s₄ => wpAny (model prog w) A (call (.builtin "list.append") [acc, x]) (fun _ s₅ => ∃ m, m < k ∧ I m s₅) (fun _ _ => False) s₄) (fun _ _ => False) s₃
          else ∃ m, m < k ∧ I m s₃) (fun _ _ => False) s₂) (fun _ _ => False) s₁') (fun _ _ => False) s₁) (fun _ _ => False) s)
    (k : Nat) (h : I k s) : codeAny (model prog w) A (.compLoop (lc2 elt t0 i0 t1 i1 ifs1 scope pos) 1 it acc env) R s := by
  refine codeAny_loop rfl I (fun k s hI => ?_) k h
  show wpAny _ A ((compTurn (lc2 elt t0 i0 t1 i1 ifs1 scope pos) 1 it acc env).onRaise (fun x => do noteFrame x env; theTreesLotGoes x)) _ _ s
  refine wpAny_noted ?_
  rw [compTurn_two1]
  refine wpAny_bind (wpAny_standAt (wpAny_bind (wpAny_mono (turn k s hI) (fun r s₁ h₁ => ?_) fun _ _ h' => h'.elim)))
  cases r with
  | none => exact wpAny_pure h₁
  | some v =>
    refine wpAny_bind (wpAny_mono h₁ (fun _ s₁' h₁' => wpAny_bind (wpAny_mono h₁' (fun _ s₂ h₂ => wpAny_bind (wpAny_mono h₂ (fun ok s₃ h₃ => ?_) fun _ _ h' => h'.elim)) fun _ _ h' => h'.elim)) fun _ _ h' => h'.elim)
    cases ok with
    | false => exact wpAny_pure ⟨rfl, h₃⟩
    | true => exact wpAny_bind (wpAny_bind (wpAny_mono h₃ (fun x s₄ h₄ => wpAny_bind (wpAny_mono h₄ (fun _ s₅ h₅ => wpAny_pure (wpAny_pure ⟨rfl, h₅⟩)) fun _ _ h' => h'.elim)) fun _ _ h' => h'.elim))
theorem compStart_two1 {elt t0 i0 t1 i1 : Expr} {ifs1 : List Expr} {scope : Scope} {pos : Pos} {it acc : Value} {R : Result → Shared → Prop}
    (h0 : codeAny (model prog w) A (.compLoop (lc2 elt t0 i0 t1 i1 ifs1 scope pos) 1 it acc env) R s)
    (h : wpAny (model prog w) A (pyIter it) (fun it' s' => codeAny (model prog w) A (.compLoop (lc2 elt t0 i0 t1 i1 ifs1 scope pos) 1 it' acc env) R s')
      (notedBy (model prog w) A env fun x s' => R (.error x) s') s) :
    codeAny (model prog w) A (.compStart (lc2 elt t0 i0 t1 i1 ifs1 scope pos) 1 it acc env) R s := by
  refine codeAny_of_tree ?_
  show wpAny _ _ ((compStart (lc2 elt t0 i0 t1 i1 ifs1 scope pos) 1 it acc env).onRaise (fun x => do noteFrame x env; standAt theWindowsPlace)) _ _ s
  refine wpAny_notedAt ?_
  unfold compStart
  show wpAny _ _ (ask >>= _) _ _ s
  refine wpAny_bind (wpAny_askSetting (wpAny_ite ?_))
  split
  · first
      | exact wpAny_bind (wpAny_pure (wpAny_pure (And.intro rfl h0)))
      | exact wpAny_pure (And.intro rfl h0)
  · first
      | exact wpAny_bind (wpAny_rule (wpAny_bind (wpAny_standAt (wpAny_bind (wpAny_mono h (fun it' s' h' => wpAny_pure (And.intro rfl h')) fun _ _ x => x)))))
      | (refine wpAny_bind (wpAny_rule ?_); show wpAny _ _ (standAt i1.pos >>= _) _ _ s; exact wpAny_bind (wpAny_standAt (wpAny_bind (wpAny_mono h (fun it' s' h' => wpAny_pure (And.intro rfl h')) fun _ _ x => x))))
theorem compLoop_two0 {elt t0 i0 t1 i1 : Expr} {ifs1 : List Expr} {scope : Scope} {pos : Pos} {it acc : Value} {R : Result → Shared → Prop} (I : Nat → Shared → Prop) (hs1 : ∀ x, foldedSetIterable i1 env x = pure x)
    (turn : ∀ k s, I k s → wpAny (model prog w) A (pyNext it) (fun r s₁ => match r with
      | none => R (.ok .next) s₁
      | some v => wpAny (model prog w) A (letOwnedTupleGo t0 it v) (fun _ s₁' => wpAny (model prog w) A (assign t0 env v) (fun _ s₂ => wpAny (model prog w) A (eval i1 env) (fun xv s₃ => wpAny (model prog w) A (pyIter xv) (fun it1 s₄ =>
          codeAny (model prog w) A (.compStart (lc2 elt t0 i0 t1 i1 ifs1 scope pos) 1 it1 acc env) (fun r s₅ => match r with | .ok _ => ∃ m, m < k ∧ I m s₅ | .error _ => False) s₄) (fun _ _ => False) s₃) (fun _ _ => False) s₂) (fun _ _ => False) s₁') (fun _ _ => False) s₁) (fun _ _ => False) s)
    (k : Nat) (h : I k s) : codeAny (model prog w) A (.compLoop (lc2 elt t0 i0 t1 i1 ifs1 scope pos) 0 it acc env) R s := by
  refine codeAny_loop rfl I (fun k s hI => ?_) k h
  show wpAny _ A ((compTurn (lc2 elt t0 i0 t1 i1 ifs1 scope pos) 0 it acc env).onRaise (fun x => do noteFrame x env; theTreesLotGoes x)) _ _ s
  refine wpAny_noted ?_
  rw [compTurn_two0]
  refine wpAny_bind (wpAny_standAt (wpAny_bind (wpAny_mono (turn k s hI) (fun r s₁ h₁ => ?_) fun _ _ h' => h'.elim)))
  cases r with
  | none => exact wpAny_pure h₁
  | some v =>
    refine wpAny_bind (wpAny_mono h₁ (fun _ s₁' h₁' => wpAny_bind (wpAny_mono h₁' (fun _ s₂ h₂ => wpAny_bind (wpAny_mono h₂ (fun xv s₃ h₃ => ?_) fun _ _ h' => h'.elim)) fun _ _ h' => h'.elim)) fun _ _ h' => h'.elim)
    refine wpAny_bind (wpAny_standAt (wpAny_bind (wpAny_of_eq (hs1 xv) (wpAny_bind (wpAny_holding (wpAny_mono h₃ (fun it1 s₄ h₄ => ?_) fun _ _ h' => h'.elim))))))
    refine wpAny_bind (wpAny_mono (wpAny_runOwn (Q := fun _ s₅ => ∃ m, m < k ∧ I m s₅) (E := fun _ _ => False) (codeAny_mono h₄ fun r s₅ hr => ?_)) (fun _ s₅ h₅ => wpAny_pure ⟨rfl, h₅⟩) fun _ _ h' => h'.elim)
    cases r with
    | ok f => exact hr
    | error e => exact hr.elim
end
section
variable {prog : Program} {w : World} {A : Around} {E : Value → Shared → Prop} {s : Shared} {env : Env} {h₀ : Heap} {L : Addr}
open PyProof.Rows.LCg (NsObj ns_obj)
/-- an inner turn's end: x: what is appended, if anything -/
def Turn1 (h₀ : Heap) (L C D : Addr) (own1 own : List (Addr × Obj)) (S : List (Addr × Obj) → Prop) (acc : List Value) (nD : Nat) (J : List Value → (Str → Option Value) → (Str → Option Value) → List (Addr × Obj) → Prop) (s : Shared) (x : Option Value) (s' : Shared) : Prop :=
  ∃ h' tk m' oC mC news', s' = { s with heap := h', toks := tk } ∧ Fr h₀ L h' m' ∧ News h₀ L h' (own1 ++ (own ++ ((C, oC) :: (D, W.listOf acc.toArray nD) :: news'))) ∧ NsObj oC mC ∧ Apart own1 news' ∧ Apart own news' ∧ (∀ p ∈ news', p.1 ≠ C ∧ p.1 ≠ D) ∧ S news' ∧ J (acc ++ x.toList) mC m' news'
theorem Turn1.intro {h₀ : Heap} {L C D : Addr} {own1 own : List (Addr × Obj)} {S : List (Addr × Obj) → Prop} {acc : List Value} {nD : Nat} {J : List Value → (Str → Option Value) → (Str → Option Value) → List (Addr × Obj) → Prop} {s : Shared} {x : Option Value} {h' : Heap} {tk : Nat} {m' : Str → Option Value} {oC : Obj} {mC : Str → Option Value} {news' N2 : List (Addr × Obj)}
    (F : Fr h₀ L h' m') (N : News h₀ L h' N2) (hn : ∀ p ∈ own1 ++ (own ++ ((C, oC) :: (D, W.listOf acc.toArray nD) :: news')), p ∈ N2) (hC : NsObj oC mC) (a1 : Apart own1 news') (a0 : Apart own news') (off : ∀ p ∈ news', p.1 ≠ C ∧ p.1 ≠ D) (hS : S news') (hJ : J (acc ++ x.toList) mC m' news') :
    Turn1 h₀ L C D own1 own S acc nD J s x { s with heap := h', toks := tk } := ⟨h', tk, m', oC, mC, news', rfl, F, newsSub N hn, hC, a1, a0, off, hS, hJ⟩
/-- the inner clause's turns -/
def Turns1 (prog : Program) (w : World) (A : Around) (h₀ : Heap) (L C D : Addr) (cenv : Env) (t1 elt : Expr) (ifs1 : List Expr) (n1 : Nat) (Item1 : Nat → Value → List (Addr × Obj) → Prop) (S : List (Addr × Obj) → Prop) (own : List (Addr × Obj)) (J : Nat → List Value → (Str → Option Value) → (Str → Option Value) → List (Addr × Obj) → Prop) (s : Shared) : Prop :=
  ∀ j v own1 ex acc nD oC mC m₁ news₁ h tk, j < n1 → Item1 j v ex → NsObj oC mC → J j acc mC m₁ news₁ → S news₁ → Apart own1 (ex ++ (own ++ ((C, oC) :: (D, W.listOf acc.toArray nD) :: news₁))) → Apart own news₁ → (∀ p ∈ news₁, p.1 ≠ C ∧ p.1 ≠ D) → Fr h₀ L h m₁ → News h₀ L h (own1 ++ (ex ++ (own ++ ((C, oC) :: (D, W.listOf acc.toArray nD) :: news₁)))) →
    wpAny (model prog w) A (assign t1 cenv v) (fun _ s₂ => wpAny (model prog w) A (testsOf cenv ifs1) (fun ok s₃ =>
      if ok = true then wpAny (model prog w) A (eval elt cenv) (fun x s₄ => Turn1 h₀ L C D own1 own S acc nD (J (j + 1)) { s with heap := h, toks := tk } (some x) s₄) (fun _ _ => False) s₃
      else Turn1 h₀ L C D own1 own S acc nD (J (j + 1)) { s with heap := h, toks := tk } none s₃) (fun _ _ => False) s₂) (fun _ _ => False) { s with heap := h, toks := tk }
/-- what the inner clause's source hands on -/
structure InnerAt (prog : Program) (w : World) (A : Around) (h₀ : Heap) (L C D : Addr) (cenv : Env) (t1 elt : Expr) (ifs1 : List Expr) (S : List (Addr × Obj) → Prop) (own : List (Addr × Obj)) (acc : List Value) (nD : Nat) (Jn : List Value → (Str → Option Value) → List (Addr × Obj) → Prop) (s : Shared) (it : Value) (s₁ : Shared) : Prop where
  out : ∃ I n St Item own1 h tk m oC mC news, ∃ J : Nat → List Value → (Str → Option Value) → (Str → Option Value) → List (Addr × Obj) → Prop, it = .ref I ∧ Feed prog w A h₀ L t1 I n St Item (fun rest => ∃ oC oD rest', rest = own ++ ((C, oC) :: (D, oD) :: rest') ∧ S rest') ∧ s₁ = { s with heap := h, toks := tk } ∧ St 0 own1 ∧ Fr h₀ L h m ∧ News h₀ L h (own1 ++ (own ++ ((C, oC) :: (D, W.listOf acc.toArray nD) :: news))) ∧
    Apart own1 (own ++ ((C, oC) :: (D, W.listOf acc.toArray nD) :: news)) ∧ Apart own news ∧ (∀ p ∈ news, p.1 ≠ C ∧ p.1 ≠ D) ∧ S news ∧ NsObj oC mC ∧ J 0 acc mC m news ∧ (∀ j acc mC m news, J j acc mC m news → acc.length ≤ sizeLine) ∧ Turns1 prog w A h₀ L C D cenv t1 elt ifs1 n Item S own J s ∧ ∀ acc mC m news, J n acc mC m news → Jn acc m news
theorem apart_cd {own news : List (Addr × Obj)} {C D : Addr} {oC oD : Obj} (a : ∀ p ∈ own, C ≠ p.1 ∧ D ≠ p.1) (b : Apart own news) : Apart own ((C, oC) :: (D, oD) :: news) := fun p hp q hq => by
  rcases List.mem_cons.mp hq with rfl | hq
  · exact (a p hp).1
  · rcases List.mem_cons.mp hq with rfl | hq
    · exact (a p hp).2
    · exact b p hp q hq
theorem apart_app {own a b : List (Addr × Obj)} (x : Apart own a) (y : Apart own b) : Apart own (a ++ b) := fun p hp q hq => (List.mem_append.mp hq).elim (x p hp q) (y p hp q)
theorem inner_loop {elt t0 i0 t1 i1 : Expr} {ifs1 : List Expr} {scope : Scope} {pos : Pos} {cenv : Env} {C D : Addr} {S : List (Addr × Obj) → Prop} {own : List (Addr × Obj)} {acc : List Value} {nD : Nat} {Jn : List Value → (Str → Option Value) → List (Addr × Obj) → Prop} {R : Result → Shared → Prop} {it : Value} {s₁ : Shared}
    (hCD : C ≠ D) (apO : ∀ p ∈ own, C ≠ p.1 ∧ D ≠ p.1) (H : InnerAt prog w A h₀ L C D cenv t1 elt ifs1 S own acc nD Jn s it s₁)
    (fin : ∀ acc nD oC mC m₁ news₁ h tk, Jn acc m₁ news₁ → NsObj oC mC → Apart own news₁ → (∀ p ∈ news₁, p.1 ≠ C ∧ p.1 ≠ D) → S news₁ → Fr h₀ L h m₁ → News h₀ L h (own ++ ((C, oC) :: (D, W.listOf acc.toArray nD) :: news₁)) → R (.ok .next) { s with heap := h, toks := tk }) :
    codeAny (model prog w) A (.compStart (lc2 elt t0 i0 t1 i1 ifs1 scope pos) 1 it (.ref D) cenv) R s₁ := by
  obtain ⟨I, n, St, Item, own1, h, tk, m, oC, mC, news, J, rfl, Fd, rfl, st, F, N, ap1, ap0, off, hSn, hoC, hJ, hJz, turn, hend⟩ := H
  let Jx : Nat → (Str → Option Value) → List (Addr × Obj) → Prop := fun j m' rest => ∃ oC mC nD acc news', rest = own ++ ((C, oC) :: (D, W.listOf acc.toArray nD) :: news') ∧ NsObj oC mC ∧ Apart own news' ∧ (∀ p ∈ news', p.1 ≠ C ∧ p.1 ≠ D) ∧ S news' ∧ J j acc mC m' news'
  let S1 : List (Addr × Obj) → Prop := fun rest => ∃ oC oD rest', rest = own ++ ((C, oC) :: (D, oD) :: rest') ∧ S rest'
  have loop : ∀ s₂ : Shared, s₂ = { s with heap := h, toks := tk } → codeAny (model prog w) A (.compLoop (lc2 elt t0 i0 t1 i1 ifs1 scope pos) 1 (.ref I) (.ref D) cenv) R s₂ := by
    rintro s₂ rfl
    refine compLoop_two1 (FeedInv h₀ L n St S1 Jx s) (fun k s' inv => ?_) (n + 1) ⟨0, own1, h, tk, m, _, rfl, st, F, N, ap1, ⟨_, _, _, rfl, hSn⟩, ⟨oC, mC, nD, acc, news, rfl, hoC, ap0, off, hSn, hJ⟩, Nat.zero_le _, rfl⟩
    refine wpAny_mono (feed_step (E := fun _ _ => False) (Body := fun v s₂ => wpAny (model prog w) A (assign t1 cenv v) (fun _ s₂ => wpAny (model prog w) A (testsOf cenv ifs1) (fun ok s₃ =>
            if ok = true then wpAny (model prog w) A (eval elt cenv) (fun x s₄ => wpAny (model prog w) A (call (.builtin "list.append") [.ref D, x]) (fun _ s₅ => ∃ m, m < k ∧ FeedInv h₀ L n St S1 Jx s m s₅) (fun _ _ => False) s₄) (fun _ _ => False) s₃
            else ∃ m, m < k ∧ FeedInv h₀ L n St S1 Jx s m s₃) (fun _ _ => False) s₂) (fun _ _ => False) s₂) (Qn := fun s₁ => R (.ok .next) s₁) Fd inv ?_ ?_) (fun r s₁ h₁ => ?_) fun _ _ e => e
    · rintro j v own1' ex m₂ rest h₂ tk₂ hj it ⟨oC', mC', nD', acc', news', rfl, hoC', ap0', off', hS', hJ'⟩ _ ap₂ F₂ N₂ fe
      have apC1 : ∀ p ∈ own1', C ≠ p.1 ∧ D ≠ p.1 := fun p hp => ⟨ap₂ p hp (C, oC') (List.mem_append_right _ (List.mem_append_right _ (.head _))), ap₂ p hp (D, _) (List.mem_append_right _ (List.mem_append_right _ (.tail _ (.head _))))⟩
      have apO1 : Apart own1' own := fun p hp q hq => ap₂ p hp q (List.mem_append_right _ (List.mem_append_left _ hq))
      refine wpAny_mono (turn j v own1' ex acc' nD' oC' mC' m₂ news' h₂ tk₂ hj it hoC' hJ' hS' ap₂ ap0' off' F₂ N₂) (fun _ s₃ h₃ => wpAny_mono h₃ (fun ok s₄ h₄ => ?_) fun _ _ e => e) fun _ _ e => e
      cases ok with
      | false =>
        obtain ⟨h₅, tk₅, m₅, oC₅, mC₅, news₅, rfl, F₅, N₅, hoC₅, ap₅, apo₅, off₅, hS₅, hJ₅⟩ := h₄
        exact fe _ ⟨h₅, tk₅, m₅, _, rfl, F₅, N₅, apart_app apO1 (apart_cd apC1 ap₅), ⟨_, _, _, rfl, hS₅⟩, ⟨oC₅, mC₅, nD', acc', news₅, rfl, hoC₅, apo₅, off₅, hS₅, by simpa using hJ₅⟩⟩
      | true =>
        refine wpAny_mono h₄ (fun x s₅ h₅ => ?_) fun _ _ e => e
        obtain ⟨h₅, tk₅, m₅, oC₅, mC₅, news₅, rfl, F₅, N₅, hoC₅, ap₅, apo₅, off₅, hS₅, hJ₅⟩ := h₅
        have hD := N₅ (D, W.listOf acc'.toArray nD') (List.mem_append_right _ (List.mem_append_right _ (.tail _ (.head _))))
        have hsz : acc'.toArray.size ≤ sizeLine := by
          have := hJz _ _ _ _ _ hJ'
          rw [List.size_toArray]; exact this
        refine append_at (hsz := hsz) hD.1 fun h₆ hs₆ ho₆ => ?_
        have offD : ∀ p ∈ own1' ++ (own ++ ((C, oC₅) :: news₅)), p.1 ≠ D := fun p hp => by
          rcases List.mem_append.mp hp with hp | hp
          · exact Ne.symm (apC1 p hp).2
          · rcases List.mem_append.mp hp with hp | hp
            · exact Ne.symm (apO p hp).2
            · rcases List.mem_cons.mp hp with rfl | hp
              · exact hCD
              · exact (off₅ p hp).2
        have N₆ := newsSub N₅ (b := own1' ++ (own ++ ((C, oC₅) :: news₅))) fun p hp => by
          simp only [List.mem_append, List.mem_cons] at hp ⊢
          rcases hp with hp | hp | hp | hp <;> simp [hp]
        obtain ⟨F₇, N₇⟩ := ns_after F₅ N₆ hs₆ hD.2.1 hD.2.2 offD
        have hx : acc'.toArray.push x = (acc' ++ [x]).toArray := by simp
        rw [hx] at ho₆
        refine fe _ ⟨h₆, _, m₅, own ++ ((C, oC₅) :: (D, W.listOf (acc' ++ [x]).toArray (nD' + 1)) :: news₅), rfl, F₇, fun p hp => ?_, apart_app apO1 (apart_cd apC1 ap₅), ⟨_, _, _, rfl, hS₅⟩, ⟨oC₅, mC₅, nD' + 1, acc' ++ [x], news₅, rfl, hoC₅, apo₅, off₅, hS₅, by simpa using hJ₅⟩⟩
        rcases List.mem_append.mp hp with hp | hp
        · exact N₇ p (List.mem_append_left _ hp)
        · rcases List.mem_append.mp hp with hp | hp
          · exact N₇ p (List.mem_append_right _ (List.mem_append_left _ hp))
          · rcases List.mem_cons.mp hp with rfl | hp
            · exact N₇ _ (List.mem_append_right _ (List.mem_append_right _ (.head _)))
            · rcases List.mem_cons.mp hp with rfl | hp
              · exact ⟨ho₆, hD.2⟩
              · exact N₇ p (List.mem_append_right _ (List.mem_append_right _ (.tail _ hp)))
    · rintro m₁ rest h₁ tk₁ ⟨oC', mC', nD', acc', news', rfl, hoC', ap0', off', hS', hJ'⟩ F₁ N₁
      exact fin acc' nD' oC' mC' m₁ news' h₁ tk₁ (hend _ _ _ _ hJ') hoC' ap0' off' hS' F₁ N₁
    · cases r with
      | none => exact h₁
      | some v => exact h₁
  exact compStart_two1 (loop _ rfl) (Fd.self 0 own1 _ _ _ st (newsSub N fun p hp => List.mem_append_left _ hp) (loop _ rfl))
end
section
variable {prog : Program} {w : World} {A : Around} {E : Value → Shared → Prop} {s : Shared} {env : Env} {h₀ : Heap} {L : Addr} {Q : Flow → Shared → Prop}
open PyProof.Rows.LCg (NsObj ns_obj)
/-- `y = [elt for t0 in i0 for t1 in i1 if ..]` over any feeds -/
theorem comp2_assign {elt t0 i0 t1 i1 : Expr} {ifs1 : List Expr} {scope : Scope} {pos : Pos} {cl : List (Str × Addr)} {y : Str} {py spos : Pos} {m₀ : Str → Option Value} {n : Nat} {Item : Nat → Value → List (Addr × Obj) → Prop} {S : List (Addr × Obj) → Prop} (_F : Fr h₀ L s.heap m₀) (hL : env.locals = L)
    (J : Nat → List Value → (Str → Option Value) → List (Addr × Obj) → Prop) (hS : ∀ a b, (∀ p ∈ a, p ∈ b) → S a → S b)
    (hsw : swapsWith (lc2 elt t0 i0 t1 i1 ifs1 scope pos) (some (.Name y py)) spos.line env = pure true)
    (hclos : closureFor scope env = pure cl) (hcell : ∀ y ∈ scope.names, y.2 ≠ .cell) (hkind : scope.kind = .function) (hnames : ∀ y ∈ scope.names, y.2 = .local → scope.names.lookup y.1 = some .local)
    (hy : env.kindOf y = some .local) (hpl : (env.scope.kind == .class || (env.scope.kind == .module && env.locals != env.globals)) = false)
    (he : wpAny (model prog w) A (eval i0 env) (fun xv s₁ => wpAny (model prog w) A (pyIter xv) (FeedAt prog w A h₀ L t0 n Item S (J 0 []) s) E s₁) E s)
    (turn : ∀ C D i v own ex acc nD oC mC m₁ news₁ h tk, i < n → Item i v ex → NsObj oC mC → J i acc m₁ news₁ → S news₁ → Apart own (ex ++ ((C, oC) :: (D, W.listOf acc.toArray nD) :: news₁)) → (∀ p ∈ news₁, p.1 ≠ C ∧ p.1 ≠ D) → C ≠ D → Fr h₀ L h m₁ → News h₀ L h (own ++ (ex ++ ((C, oC) :: (D, W.listOf acc.toArray nD) :: news₁))) →
      wpAny (model prog w) A (assign t0 (compEnvC scope cl C env) v) (fun _ s₂ => wpAny (model prog w) A (eval i1 (compEnvC scope cl C env)) (fun xv s₃ => wpAny (model prog w) A (pyIter xv) (InnerAt prog w A h₀ L C D (compEnvC scope cl C env) t1 elt ifs1 S own acc nD (J (i + 1)) { s with heap := h, toks := tk }) (fun _ _ => False) s₃) (fun _ _ => False) s₂) (fun _ _ => False) { s with heap := h, toks := tk })
    (fin : ∀ D acc nD m₁ news₁ h tk, J n acc m₁ news₁ → S news₁ → (∀ p ∈ news₁, p.1 ≠ D) → Fr h₀ L h (fun z => if z = y then some (.ref D) else m₁ z) → News h₀ L h ((D, W.listOf acc.toArray nD) :: news₁) → Q .next { s with heap := h, toks := tk })
    (hs : ∀ x, foldedSetIterable i0 env x = pure x := by intro _; rfl) (hs1 : ∀ C x, foldedSetIterable i1 (compEnvC scope cl C env) x = pure x := by intro _ _; rfl) :
    wpAny (model prog w) A (exec (.Assign [.Name y py] (lc2 elt t0 i0 t1 i1 ifs1 scope pos) spos) env) Q E s := by
  rw [exec_Assign_Name_used _ _ _ _ hsw]
  refine wpAny_bind (wpAny_standAt (wpAny_bind ?_))
  show wpAny _ A (do let _ ← comprehension (lc2 elt t0 i0 t1 i1 ifs1 scope pos) scope env _ (newList []) false (eval i0 env) (some (assign (.Name y py) env))) _ _ s
  refine wpAny_bind (wpAny_mono (wpAny_comprehension_free (use := some (assign (.Name y py) env)) (Q := fun _ s' => Q .next s') rfl hs hclos hkind hnames
    (wpAny_mono he (fun xv s₁ h₁ => wpAny_mono h₁ (fun it s₂ h₂ => ?_) fun _ _ e => e) fun _ _ e => e)) (fun _ s' hq => wpAny_pure (wpAny_pure hq)) fun _ _ e => e)
  obtain ⟨⟨I, St, own, h, tk, m, news, rfl, Fd, rfl, st, F, N, ap, hSn, hJ⟩⟩ := h₂
  refine wpAny_newObj_type (wpAny_newFunctionEnv hcell (by intro y hy; simp at hy) (fun h₁ hns₁ hsb₁ => ?_) hkind)
  dsimp only at hns₁ hsb₁ ⊢
  have F1 := F.push ({ cls := .type "list", dict := none, data := .seq ([] : List Value).toArray } : Obj)
  have N1 := N.push F ({ cls := .type "list", dict := none, data := .seq ([] : List Value).toArray } : Obj)
  have below : ∀ p ∈ own ++ news, p.1 < h.objs.size := fun p hp => Heap.lt_size (N p hp).1
  have hLlt : L < h.objs.size := F.ns.lt
  have hC : (h.push ({ cls := .type "list", dict := none, data := .seq ([] : List Value).toArray } : Obj)).objs.size = h.objs.size + 1 := Heap.size_push ..
  generalize hH2 : h.push ({ cls := .type "list", dict := none, data := .seq ([] : List Value).toArray } : Obj) = H2 at hns₁ hsb₁ F1 N1 hC ⊢
  generalize hCe : H2.objs.size = C at hns₁ hsb₁ hC ⊢
  obtain ⟨oC, heC, hoC⟩ := ns_obj hns₁
  have hC0 : h₀.get? C = none := by
    cases e : h₀.get? C with
    | none => rfl
    | some o' => exact absurd (Heap.lt_size (F1.keep _ _ e)) (by rw [hCe]; exact Nat.lt_irrefl _)
  have hCL : C ≠ L := by rw [hC]; exact Nat.ne_of_gt (Nat.lt_succ_of_lt hLlt)
  have hCD : C ≠ h.objs.size := by rw [hC]; exact Nat.succ_ne_self _
  have offC : ∀ p ∈ (h.objs.size, ({ cls := .type "list", dict := none, data := .seq ([] : List Value).toArray } : Obj)) :: (own ++ news), p.1 ≠ C := fun p hp => by
    rcases List.mem_cons.mp hp with rfl | hp
    · exact Ne.symm hCD
    · rw [hC]; exact Nat.ne_of_lt (Nat.lt_succ_of_lt (below p hp))
  have F2 : Fr h₀ L h₁ m := ⟨F1.ns.at' fun o e => hsb₁.extBut _ o (Ne.symm hCL) (Heap.get?_push_of_some _ e), fun b o e => hsb₁.extBut b o (fun z => by rw [z, hC0] at e; cases e) (Heap.get?_push_of_some _ (F1.keep b o e)), F1.above⟩
  have N2 : News h₀ L h₁ (own ++ ((C, oC) :: (h.objs.size, W.listOf #[] 0) :: news)) := fun p hp => by
    have old : ∀ q ∈ (h.objs.size, ({ cls := .type "list", dict := none, data := .seq ([] : List Value).toArray } : Obj)) :: (own ++ news), h₁.get? q.1 = some q.2 ∧ q.1 ≠ L ∧ h₀.get? q.1 = none := fun q hq => ⟨hsb₁.extBut _ _ (offC q hq) (Heap.get?_push_of_some _ (N1 q hq).1), (N1 q hq).2⟩
    rcases List.mem_append.mp hp with hp | hp
    · exact old p (.tail _ (List.mem_append_left _ hp))
    · rcases List.mem_cons.mp hp with rfl | hp
      · exact ⟨heC, hCL, hC0⟩
      · rcases List.mem_cons.mp hp with rfl | hp
        · exact old _ (.head _)
        · exact old p (.tail _ (List.mem_append_right _ hp))
  have apC : ∀ p ∈ own, C ≠ p.1 ∧ h.objs.size ≠ p.1 := fun p hp => ⟨Ne.symm (offC p (.tail _ (List.mem_append_left _ hp))), Nat.ne_of_gt (below p (List.mem_append_left _ hp))⟩
  have off : ∀ p ∈ news, p.1 ≠ C ∧ p.1 ≠ h.objs.size := fun p hp => ⟨offC p (.tail _ (List.mem_append_right _ hp)), Nat.ne_of_lt (below p (List.mem_append_right _ hp))⟩
  let Jx : Nat → (Str → Option Value) → List (Addr × Obj) → Prop := fun i m' rest => ∃ oC mC nD acc news', rest = (C, oC) :: (h.objs.size, W.listOf acc.toArray nD) :: news' ∧ NsObj oC mC ∧ (∀ p ∈ news', p.1 ≠ C ∧ p.1 ≠ h.objs.size) ∧ S news' ∧ J i acc m' news'
  have sx : ∀ (oC : Obj) (oD : Obj) (news' : List (Addr × Obj)), S news' → S ((C, oC) :: (h.objs.size, oD) :: news') := fun oC oD news' hs => hS _ _ (fun p hp => List.mem_cons_of_mem _ (List.mem_cons_of_mem _ hp)) hs
  have loop : ∀ s₃ : Shared, s₃ = { s with heap := h₁, toks := tk + ([] : List (Str × Value)).length } →
      codeAny (model prog w) A (.compLoop (lc2 elt t0 i0 t1 i1 ifs1 scope pos) 0 (.ref I) (.ref h.objs.size) (compEnvC scope cl C env)) (compPost (model prog w) A E (some (assign (.Name y py) env)) (fun _ s' => Q .next s') (.ref h.objs.size) C) s₃ := by
    rintro s₃ rfl
    refine compLoop_two0 (FeedInv h₀ L n St S Jx s) (hs1 C) (fun k s' inv => ?_) (n + 1) ⟨0, own, h₁, tk, m, _, rfl, st, F2, N2, apart_cd apC ap, sx _ _ _ hSn, ⟨oC, _, 0, [], news, rfl, hoC, off, hSn, hJ⟩, Nat.zero_le _, rfl⟩
    refine wpAny_mono (feed_step (E := fun _ _ => False) (Body := fun v s₂ => wpAny (model prog w) A (assign t0 (compEnvC scope cl C env) v) (fun _ s₂ => wpAny (model prog w) A (eval i1 (compEnvC scope cl C env)) (fun xv s₃ => wpAny (model prog w) A (pyIter xv) (fun it1 s₄ =>
          codeAny (model prog w) A (.compStart (lc2 elt t0 i0 t1 i1 ifs1 scope pos) 1 it1 (.ref h.objs.size) (compEnvC scope cl C env)) (fun r s₅ => match r with | .ok _ => ∃ m, m < k ∧ FeedInv h₀ L n St S Jx s m s₅ | .error _ => False) s₄) (fun _ _ => False) s₃) (fun _ _ => False) s₂) (fun _ _ => False) s₂)
        (Qn := fun s₁ => compPost (model prog w) A E (some (assign (.Name y py) env)) (fun _ s' => Q .next s') (.ref h.objs.size) C (.ok .next) s₁) Fd inv ?_ ?_) (fun r s₁ h₁ => ?_) fun _ _ e => e
    · rintro i v own' ex m₂ rest h₂ tk₂ hi it ⟨oC', mC', nD', acc, news', rfl, hoC', off', hS', hJ'⟩ _ ap₂ F₂ N₂ fe
      have apC' : ∀ p ∈ own', C ≠ p.1 ∧ h.objs.size ≠ p.1 := fun p hp => ⟨ap₂ p hp (C, oC') (List.mem_append_right _ (.head _)), ap₂ p hp (h.objs.size, _) (List.mem_append_right _ (.tail _ (.head _)))⟩
      refine wpAny_mono (turn C h.objs.size i v own' ex acc nD' oC' mC' m₂ news' h₂ tk₂ hi it hoC' hJ' hS' ap₂ off' hCD F₂ N₂) (fun _ s₃ h₃ => wpAny_mono h₃ (fun xv s₄ h₄ => wpAny_mono h₄ (fun it1 s₅ h₅ => ?_) fun _ _ e => e) fun _ _ e => e) fun _ _ e => e
      refine inner_loop hCD apC' h₅ fun acc₆ nD₆ oC₆ mC₆ m₆ news₆ h₆ tk₆ hJ₆ hoC₆ ap₆ off₆ hS₆ F₆ N₆ => ?_
      exact fe _ ⟨h₆, tk₆, m₆, _, rfl, F₆, N₆, apart_cd apC' ap₆, sx _ _ _ hS₆, ⟨oC₆, mC₆, nD₆, acc₆, news₆, rfl, hoC₆, off₆, hS₆, hJ₆⟩⟩
    · rintro m₁ rest h₂ tk₂ ⟨oC', mC', nD', acc, news', rfl, hoC', off', hS', hJ'⟩ F₁ N₁
      show wpAny _ A (assign (.Name y py) env (.ref h.objs.size)) _ _ _
      refine wpAny_assign_Name (wpAny_storeName_local hy (by rw [hL]; exact F₁.ns) (fun h₃ hn₃ hs₃ => ?_) hpl)
      rw [hL] at hn₃ hs₃
      have F₃ : Fr h₀ L h₃ (fun z => if z = y then some (.ref h.objs.size) else m₁ z) := F₁.set hn₃ hs₃
      have N₃ : News h₀ L h₃ ((C, oC') :: (h.objs.size, W.listOf acc.toArray nD') :: news') := fun p hp => ⟨hs₃.extBut _ _ (N₁ p hp).2.1 (N₁ p hp).1, (N₁ p hp).2⟩
      refine ⟨mC', hoC'.ns (N₃ _ (.head _)).1, fun h₄ hs₄ => ?_⟩
      obtain ⟨F₄, N₄⟩ := ns_after F₃ (newsSub N₃ (b := (h.objs.size, W.listOf acc.toArray nD') :: news') fun p hp => .tail _ hp) hs₄ hCL hC0 fun p hp => by
        rcases List.mem_cons.mp hp with rfl | hp
        · exact Ne.symm hCD
        · exact (off' p hp).1
      exact fin h.objs.size acc nD' m₁ news' h₄ _ hJ' hS' (fun p hp => (off' p hp).2) F₄ N₄
    · cases r with
      | none => exact h₁
      | some v => exact h₁
  exact codeAny_compStart_list (loop _ rfl) (Fd.self 0 own _ _ _ st (newsSub N2 fun p hp => List.mem_append_left _ hp) (loop _ rfl))
end

/-- the book, plain: powers of a pick behind a row -/
def bgrow (pick : PRow) : Nat → List PRow → List Nat → Nat → Option (List PRow)
  | 0, _, _, _ => none
  | f + 1, acc, k, p =>
    if p < 256 then
      if k.length ≤ 50 && acc.length < 900 then bgrow pick f (acc ++ [(k, p)]) (k ++ capw pick.1) (p * pick.2)
      else none
    else some acc
def bpass (pick : PRow) : List PRow → List PRow → Option (List PRow)
  | [], acc => some acc
  | q :: r, acc => match bgrow pick 10 acc q.1 q.2 with
    | some acc' => bpass pick r acc'
    | none => none
def bookB : List PRow → List PRow → Option (List PRow)
  | [], rows => some rows
  | pick :: r, rows => match bpass pick rows [] with
    | some rows' => bookB r rows'
    | none => none
/-- rows of the loop over picks -/
def JOut (nIn : List (Addr × Obj)) (fin : List PRow) (rest : List PRow) (m' : Str → Option Value) (news' : List (Addr × Obj)) : Prop :=
  ∃ rl nr rws, m' (Str.ofString "rows") = some (.ref rl) ∧ PickTab rl nr rws news' ∧ (∀ p ∈ nIn, p ∈ news') ∧ bookB rest (rws.map PickRow.plain) = some fin ∧ rws.length ≤ 900
/-- the list that grows, in its ledger -/
structure JMore (ml rl : Addr) (pk : PickRow) (Bs : List (Addr × Obj)) (acc : List PickRow) (R : List (Addr × Obj)) (m' : Str → Option Value) : Prop where
  m1 : m' (Str.ofString "more") = some (.ref ml)
  m2 : m' (Str.ofString "rows") = some (.ref rl)
  m3 : m' (Str.ofString "pick") = some (.str (st pk.k) pk.tk)
  m4 : m' (Str.ofString "worth") = some (.int (pk.v : Int) pk.tv)
  off : ∀ p ∈ R, p.1 ≠ ml
  objs : ∀ r ∈ acc, (r.a, r.obj) ∈ R ∧ ∀ q ∈ Bs, @LT.lt Nat _ q.1 r.a
  sub : ∀ p ∈ Bs, p ∈ R
  le : acc.length ≤ 900
def JIn (ml rl : Addr) (pk : PickRow) (Bs : List (Addr × Obj)) (fin1 : List PRow) (rest : List PRow) (m' : Str → Option Value) (news' : List (Addr × Obj)) : Prop :=
  ∃ nm acc R, news' = (ml, W.listOf (acc.map PickRow.ref).toArray nm) :: R ∧ JMore ml rl pk Bs acc R m' ∧ bpass pk.plain rest (acc.map PickRow.plain) = some fin1
def JWh (ml rl : Addr) (pk : PickRow) (Bs : List (Addr × Obj)) (fin1 : List PRow) (rest : List PRow) (own : List (Addr × Obj)) (f : Nat) (m' : Str → Option Value) (news' : List (Addr × Obj)) : Prop :=
  ∃ nm acc R kk pp tk tp acc2, news' = (ml, W.listOf (acc.map PickRow.ref).toArray nm) :: (own ++ R) ∧ Apart own ((ml, W.listOf (acc.map PickRow.ref).toArray nm) :: R) ∧ JMore ml rl pk Bs acc R m' ∧
    m' (Str.ofString "text") = some (.str (st kk) tk) ∧ m' (Str.ofString "price") = some (.int ((pp : Nat) : Int) tp) ∧ bgrow pk.plain f (acc.map PickRow.plain) kk pp = some acc2 ∧ bpass pk.plain rest acc2 = some fin1
theorem kw51 : True := by
  k_with "call ref" => (k_here; (with_reducible show wpAny _ _ (call (Value.ref 266) _ _) _ _ _); k_dflt (refine Con.use (addh_con (by assumption) (by assumption) (by assumption) (by assumption)) (by k_asm) (by k_asm) (by k_asm) (by k_asm) (by k_asm) (by first | exact rfl | assumption) (by ktr_room) (by ktr_units) ?_; k_whole); intro v' nOut' h' tk' hpost F' N'; (try dsimp only))
  exact True.intro
section
variable {prog : Program} {w : World} {A : Around} {E : Value → Shared → Prop} {s : Shared} {Q : Value → Shared → Prop}
theorem cap_call {a : List Nat} {t : Tok} (ha : Wd a) (h : ∀ t' k, Q (.str (st (capw a)) t') { s with toks := k }) : wpAny (model prog w) A (call (.builtin "str.capitalize") [.str (st a) t]) Q E s :=
  SCL.capitalize (by have := ha.len; omega) fun t' k _ => by rw [cap_st ha.lets]; exact h t' k
end
theorem kw52 : True := by
  k_with "call builtin:str.capitalize" => (k_here; (with_reducible show wpAny _ _ (call (Value.builtin "str.capitalize") [Value.str (st _) _]) _ _ _); (refine cap_call (by assumption) ?_); intro _ _)
  exact True.intro
theorem headAddr {h₀ h : Heap} {L D : Addr} {o : Obj} {news : List (Addr × Obj)} (_ : News h₀ L h ((D, o) :: news)) : ∃ D', D' = D := ⟨_, rfl⟩
theorem dropAt {α : Type} {l : List α} {i : Nat} {x : α} (h : l[i]? = some x) : l.drop i = x :: l.drop (i + 1) := by
  obtain ⟨hlt, he⟩ := List.getElem?_eq_some_iff.mp h
  rw [List.drop_eq_getElem_cons hlt, he]
theorem bpass_cons {pk q : PRow} {r acc fin : List PRow} (h : bpass pk (q :: r) acc = some fin) : ∃ acc', bgrow pk 10 acc q.1 q.2 = some acc' ∧ bpass pk r acc' = some fin := by
  unfold bpass at h
  cases hg : bgrow pk 10 acc q.1 q.2 with
  | none => rw [hg] at h; cases h
  | some a => rw [hg] at h; exact ⟨a, rfl, h⟩
theorem bookB_cons {pk : PRow} {r rows fin : List PRow} (h : bookB (pk :: r) rows = some fin) : ∃ rows', bpass pk rows [] = some rows' ∧ bookB r rows' = some fin := by
  unfold bookB at h
  cases hg : bpass pk rows [] with
  | none => rw [hg] at h; cases h
  | some a => rw [hg] at h; exact ⟨a, rfl, h⟩
theorem head3 {h₀ h : Heap} {L D D1 D2 : Addr} {o o1 o2 : Obj} {news : List (Addr × Obj)} (_ : News h₀ L h ((D, o) :: (D1, o1) :: (D2, o2) :: news)) : ∃ a b c, a = D ∧ b = D1 ∧ c = D2 := ⟨_, _, _, rfl, rfl, rfl⟩
/-- the book while its rows are added -/
def JBook (w : World) (xv dv lv rl : Addr) (Bs : List (Addr × Obj)) (done : List PRow) (m' : Str → Option Value) (news' : List (Addr × Obj)) : Prop :=
  ∃ n brows R, m' (Str.ofString "book") = some (.ref xv) ∧ m' (Str.ofString "rows") = some (.ref rl) ∧ news' = (lv, W.listOf (brows.map Row.ref).toArray n) :: R ∧ (∀ p ∈ R, p.1 ≠ lv) ∧ Tab w xv dv lv n brows ((lv, W.listOf (brows.map Row.ref).toArray n) :: R) ∧ (∀ p ∈ Bs, p ∈ R) ∧ brows.map (fun r => (r.k, r.v)) = (done.filter fun q => !q.1.isEmpty).map fun q => (q.1, st q.1)
theorem st_ne {k : List Nat} : (st k != Str.ofString "") = !k.isEmpty := by
  have e0 : Str.ofString "" = st [] := by rfl
  rw [e0]
  cases k with
  | nil => simp
  | cons a r =>
    have h : st (a :: r) ≠ st [] := fun e => by have := st_inj.mp e; cases this
    simp [h]
theorem Tab.step {w : World} {x d l : Addr} {n : Nat} {rows : List Row} {R : List (Addr × Obj)} {qr : Row} (h : Tab w x d l n rows ((l, W.listOf (rows.map Row.ref).toArray n) :: R)) (hq : qr.Ok) : Tab w x d l (n + 1) (rows ++ [qr]) ((l, W.listOf ((rows ++ [qr]).map Row.ref).toArray (n + 1)) :: (qr.a, qr.obj) :: R) := by
  obtain ⟨h1, ⟨t, h2⟩, h3⟩ := Tab.old h
  refine ⟨.tail _ (.tail _ h1), ⟨t, .tail _ (.tail _ h2)⟩, .head _, fun r hr => ?_, fun r hr => ?_⟩
  · rcases List.mem_append.mp hr with hr | hr
    · exact .tail _ (.tail _ (h3 r hr))
    · rw [List.mem_singleton.mp hr]; exact .tail _ (.head _)
  · rcases List.mem_append.mp hr with hr | hr
    · exact h.ok r hr
    · rw [List.mem_singleton.mp hr]; exact hq

theorem book_con {w p loose mean mg mb} {nIn : List (Addr × Obj)} {a : Addr} {n : Nat} {picks : List PickRow} {fin : List PRow} (hp : PickTab a n picks nIn) (hfin : bookB (picks.map PickRow.plain) [([], 1)] = some fin)
    (hpw : ∀ r ∈ picks, Wd r.k ∧ r.v ≤ 128) (hpl : picks.length ≤ 900) (hfw : ∀ q ∈ fin, Wd q.1) :
    ConD w p loose mean mg mb 12 120 287 [.ref a] [] nIn (fun r nOut => ∃ x d l n rows, r = .ref x ∧ Tab w x d l n rows nOut ∧ (∀ p ∈ nIn, p ∈ nOut) ∧ rows.map (fun r => (r.k, r.v)) = (fin.filter fun q => !q.1.isEmpty).map fun q => (q.1, st q.1)) := by
  unfold ConD
  intro dp un gd cn cs a0 ccd cl outer A₀ base h₀ L m s Q E B F X N T hk hd hu hret
  refine wpAny_call ?_
  refine' code_defM [(Str.ofString "picks", .ref a)] ?k1 ?k2 ?k3 ?k4 ?k5 ?kA ?kF ?kK ?k6 ?k7 ?k8 ?k9 ?kR ?kB ?_ ?c2 ?c3 ?c4 ?c5
  walk_at "mine sides"
  k_steps
  refine Halt.mk ?_
  rename News _ _ _ _ => N1
  rename Fr _ _ _ _ => F1
  have e0 : Str.ofString "" = st [] := by rfl
  rw [e0] at N1
  refine' for_feedD (n := (picks.map PickRow.ref).toArray.size) (Item := fun i v ex => (picks.map PickRow.ref).toArray[i]? = some v ∧ ex = []) (S := fun news => (a, W.listOf (picks.map PickRow.ref).toArray n) ∈ news) F1 (fun i => JOut nIn fin ((picks.map PickRow.plain).drop i)) ?he ?turn ?fin
  case he =>
    have hpm := hp.list
    k_steps
    refine Halt.mk ?_
    exact listFeedAt rfl ⟨_, _, rfl⟩ (by k_asm) N1 (.tail _ (.tail _ hp.list)) ⟨_, 0, [⟨_, [], _, 1, _⟩], rfl, ⟨.head _, List.forall_mem_cons.mpr ⟨.tail _ (.head _), List.forall_mem_nil _⟩⟩, fun p hp => .tail _ (.tail _ hp), hfin, Nat.le_of_ble_eq_true rfl⟩
  case turn =>
    intro i v own ex m₁ news₁ h5 tk5 dr5 hi it hJ hS ap F₁ N₁
    obtain ⟨rl, nr, rws, hm, hpt, hsub, hb, hle⟩ := hJ
    obtain ⟨hv, rfl⟩ := it
    rw [List.getElem?_toArray, List.getElem?_map] at hv
    obtain ⟨pk, hpk, rfl⟩ := Option.map_eq_some_iff.mp hv
    have hpkm := List.mem_of_getElem? hpk
    have F₂ := frKnowL [(Str.ofString "rows", .ref rl)] F₁ (by simpa using hm)
    clear F₁
    have hpk' : (picks.map PickRow.plain)[i]? = some pk.plain := by rw [List.getElem?_map, hpk]; rfl
    rw [dropAt hpk'] at hb
    obtain ⟨fin1, hp1, hb1⟩ := bookB_cons hb
    have N₂ : News _ _ h5 (own ++ news₁) := N₁
    have ap1 : Apart own news₁ := ap
    clear N₁
    have hpo : (pk.a, pk.obj) ∈ own ++ news₁ := List.mem_append_right _ (hsub _ (hp.objs pk hpkm))
    dsimp only [PickRow.ref]
    k_steps
    refine Halt.mk ?_
    rename News _ _ _ _ => N3
    rename Fr _ _ _ _ => F3
    obtain ⟨ml, hml⟩ := headAddr N3
    subst hml
    have off3 : ∀ p ∈ own ++ news₁, p.1 ≠ ml := by k_extra "mine all"
    refine' for_feedD (n := (rws.map PickRow.ref).toArray.size) (Item := fun i v ex => (rws.map PickRow.ref).toArray[i]? = some v ∧ ex = []) (S := fun news => (rl, W.listOf (rws.map PickRow.ref).toArray nr) ∈ news) F3 (fun j => JIn ml rl pk (own ++ news₁) fin1 ((rws.map PickRow.plain).drop j)) ?he5 ?turn5 ?fin5
    case he5 =>
      k_steps
      refine Halt.mk ?_
      exact listFeedAt rfl ⟨_, _, rfl⟩ (by k_asm) (by k_asm) (.tail _ (List.mem_append_right _ hpt.list)) ⟨0, [], own ++ news₁, rfl, ⟨rfl, rfl, rfl, rfl, off3, List.forall_mem_nil _, fun p hp => hp, Nat.zero_le _⟩, hp1⟩
    case turn5 =>
      intro j v own2 ex2 m₂ news₂ h6 tk6 dr6 hj it2 hJ2 hS2 ap2 F₃ N₃
      obtain ⟨nm, acc, R, rfl, hM, hbp⟩ := hJ2
      obtain ⟨hv2, rfl⟩ := it2
      rw [List.getElem?_toArray, List.getElem?_map] at hv2
      obtain ⟨rw1, hrw, rfl⟩ := Option.map_eq_some_iff.mp hv2
      have hrwm := List.mem_of_getElem? hrw
      have F₄ := frKnowL [(Str.ofString "more", .ref ml), (Str.ofString "rows", .ref rl), (Str.ofString "pick", .str (st pk.k) pk.tk), (Str.ofString "worth", .int (pk.v : Int) pk.tv)] F₃ (by simpa using ⟨hM.m1, hM.m2, hM.m3, hM.m4⟩)
      clear F₃
      have hrw' : (rws.map PickRow.plain)[j]? = some rw1.plain := by rw [List.getElem?_map, hrw]; rfl
      rw [dropAt hrw'] at hbp
      obtain ⟨acc2, hg2, hbp2⟩ := bpass_cons hbp
      have ap3 : Apart own2 ((ml, W.listOf (acc.map PickRow.ref).toArray nm) :: R) := ap2
      have N₄ : News _ _ h6 ((ml, W.listOf (acc.map PickRow.ref).toArray nm) :: (own2 ++ R)) := newsSub N₃ fun p hp => by
        simp only [List.mem_cons, List.mem_append, List.nil_append] at hp ⊢
        rcases hp with hp | hp | hp <;> simp [hp]
      clear N₃
      have hro : (rw1.a, rw1.obj) ∈ (ml, W.listOf (acc.map PickRow.ref).toArray nm) :: (own2 ++ R) := .tail _ (List.mem_append_right _ (hM.sub _ (List.mem_append_right _ (hpt.objs rw1 hrwm))))
      dsimp only [PickRow.ref]
      k_steps
      refine Halt.mk ?_
      rename News _ _ _ _ => N5
      rename Fr _ _ _ _ => F5
      refine' while_inv (JWh ml rl pk (own ++ news₁) fin1 ((rws.map PickRow.plain).drop (j + 1)) own2) 10 F5 N5 ?wstart ?wturn
      case wstart =>
        exact ⟨_, fun p hp => hp, nm, acc, R, rw1.k, rw1.v, _, _, acc2, rfl, ap3, ⟨rfl, rfl, rfl, rfl, hM.off, hM.objs, hM.sub, hM.le⟩, rfl, rfl, hg2, hbp2⟩
      case wturn =>
        intro f m₄ news₄ h7 tk7 dr7 hW F₇ N₇
        obtain ⟨nm4, acc4, R4, kk, pp, tkk, tpp, acc5, rfl, ap4, hM4, hl4, hp4, hg4, hps4⟩ := hW
        have F₈ := frKnowL [(Str.ofString "more", .ref ml), (Str.ofString "rows", .ref rl), (Str.ofString "pick", .str (st pk.k) pk.tk), (Str.ofString "worth", .int (pk.v : Int) pk.tv), (Str.ofString "text", .str (st kk) tkk), (Str.ofString "price", .int (pp : Int) tpp)] F₇ (by simpa using ⟨hM4.m1, hM4.m2, hM4.m3, hM4.m4, hl4, hp4⟩)
        clear F₇
        cases f with
        | zero => cases hg4
        | succ f =>
          unfold bgrow at hg4
          by_cases hpp : pp < 256
          · rw [if_pos hpp] at hg4
            split at hg4
            · rename_i hc
              simp only [Bool.and_eq_true, decide_eq_true_eq, List.length_map] at hc
              obtain ⟨hkk, hlt9⟩ := hc
              have hoff4 : ∀ p ∈ own2 ++ R4, p.1 ≠ ml := by
                intro p hp
                rcases List.mem_append.mp hp with hp | hp
                · exact Ne.symm (ap4 p hp (ml, W.listOf (acc4.map PickRow.ref).toArray nm4) (.head _))
                · exact hM4.off p hp
              have hsz4 : (acc4.map PickRow.ref).toArray.size ≤ sizeLine := by
                rw [sizeLine_eq]
                simp
                omega
              have hv128 := (hpw pk hpkm).2
              have hmul4 : IntMulOk (pp : Int) (pk.v : Int) := IntMulOk.of_right (intBits_le_64 (by omega) (by omega))
              have hwpk := (hpw pk hpkm).1
              have hlk4 : kk.length ≤ 200 := Nat.le_trans hkk (by decide)
              have hlc4 : (capw pk.k).length ≤ 200 := Nat.le_trans hwpk.cap.short (by decide)
              k_steps
              rename Fr _ _ _ _ => F9
              rename News _ _ _ _ => N9
              rename (∀ p ∈ (ml, _) :: (own2 ++ R4), Prod.fst p < _) => lt8
              obtain ⟨pn, hpn, lt9, N10⟩ : ∃ pn : PickRow, pn.plain = (kk, pp) ∧ (∀ p ∈ (ml, W.listOf (acc4.map PickRow.ref).toArray nm4) :: (own2 ++ R4), @LT.lt Nat _ p.1 pn.a) ∧ News _ _ _ ((pn.a, pn.obj) :: (ml, W.listOf ((acc4 ++ [pn]).map PickRow.ref).toArray (nm4 + 1)) :: (own2 ++ R4)) := ⟨⟨_, kk, tkk, pp, tpp⟩, rfl, lt8, by simpa using N9⟩
              show WhileEnd _ _ _ _ _ _
              refine WhileEnd.intro (j := f) (news' := (ml, W.listOf ((acc4 ++ [pn]).map PickRow.ref).toArray (nm4 + 1)) :: (own2 ++ ((pn.a, pn.obj) :: R4))) F9 N10 ?_ (Nat.lt_succ_self _) ⟨nm4 + 1, acc4 ++ [pn], (pn.a, pn.obj) :: R4, kk ++ capw pk.k, pp * pk.v, _, _, acc5, rfl, ?_, ⟨rfl, rfl, rfl, rfl, ?_, ?_, fun p hp => .tail _ (hM4.sub p hp), ?_⟩, rfl, congrArg (fun z => some (Value.int z _)) (Int.natCast_mul pp pk.v).symm, ?_, hps4⟩
              · intro p hp
                rcases List.mem_cons.mp hp with rfl | hp
                · exact .tail _ (.head _)
                · rcases List.mem_append.mp hp with hp | hp
                  · exact .tail _ (.tail _ (List.mem_append_left _ hp))
                  · rcases List.mem_cons.mp hp with rfl | hp
                    · exact .head _
                    · exact .tail _ (.tail _ (List.mem_append_right _ hp))
              · intro p hp q hq
                rcases List.mem_cons.mp hq with rfl | hq
                · exact ap4 p hp (ml, W.listOf (acc4.map PickRow.ref).toArray nm4) (.head _)
                · rcases List.mem_cons.mp hq with rfl | hq
                  · exact Nat.ne_of_gt (lt9 p (.tail _ (List.mem_append_left _ hp)))
                  · exact ap4 p hp q (.tail _ hq)
              · intro p hp
                rcases List.mem_cons.mp hp with rfl | hp
                · exact Nat.ne_of_gt (lt9 _ (.head _))
                · exact hM4.off p hp
              · intro q hq
                rcases List.mem_append.mp hq with hq | hq
                · exact ⟨.tail _ (hM4.objs q hq).1, (hM4.objs q hq).2⟩
                · rw [List.mem_singleton.mp hq]
                  exact ⟨.head _, fun p hp => lt9 p (.tail _ (List.mem_append_right _ (hM4.sub p hp)))⟩
              · rw [List.length_append, List.length_singleton]
                omega
              · rw [List.map_append, List.map_cons, List.map_nil, hpn]
                exact hg4
            · cases hg4
          · rw [if_neg hpp] at hg4
            cases hg4
            k_steps
            rename Fr _ _ _ _ => F9
            rename News _ _ _ _ => N9
            show FeedEndD _ _ _ _ _ _ _
            refine FeedEndD.intro (news' := (ml, W.listOf (acc4.map PickRow.ref).toArray nm4) :: R4) F9 N9 (fun p hp => .tail _ (List.mem_append_left _ hp)) (fun p hp => ?_) ap4 (.tail _ (hM4.sub _ (List.mem_append_right _ hpt.list))) ⟨nm4, acc4, R4, rfl, ⟨rfl, rfl, rfl, rfl, hM4.off, hM4.objs, hM4.sub, hM4.le⟩, hps4⟩
            rcases List.mem_cons.mp hp with rfl | hp
            · exact .head _
            · exact .tail _ (List.mem_append_right _ hp)
    case fin5 =>
      intro m₃ news₃ h8 tk8 dr8 hJ F₅ N₅
      obtain ⟨nm3, acc3, R3, rfl, hM3, hb3⟩ := hJ
      have hd3 : (rws.map PickRow.plain).drop (rws.map PickRow.ref).toArray.size = [] := List.drop_eq_nil_of_le (by simp)
      rw [hd3] at hb3
      unfold bpass at hb3
      cases hb3
      have F₆ := frKnowL [(Str.ofString "more", .ref ml), (Str.ofString "rows", .ref rl), (Str.ofString "pick", .str (st pk.k) pk.tk), (Str.ofString "worth", .int (pk.v : Int) pk.tv)] F₅ (by simpa using ⟨hM3.m1, hM3.m2, hM3.m3, hM3.m4⟩)
      clear F₅
      dsimp only
      k_steps
      rename Fr _ _ _ _ => F9
      rename News _ _ _ _ => N9
      show FeedEndD _ _ _ _ _ _ _
      refine FeedEndD.intro (news' := (ml, W.listOf (acc3.map PickRow.ref).toArray nm3) :: (acc3.map (fun r => (r.a, r.obj)) ++ news₁)) F9 N9 (fun p hp => .tail _ (hM3.sub _ (List.mem_append_left _ hp))) ?_ ?_ (.tail _ (List.mem_append_right _ (hsub _ hp.list))) ⟨ml, nm3, acc3, rfl, ⟨.head _, fun r hr => .tail _ (List.mem_append_left _ (List.mem_map_of_mem (f := fun r => (r.a, r.obj)) hr))⟩, fun p hp => .tail _ (List.mem_append_right _ (hsub p hp)), hb1, hM3.le⟩
      · intro p hp
        rcases List.mem_cons.mp hp with rfl | hp
        · exact .head _
        · rcases List.mem_append.mp hp with hp | hp
          · obtain ⟨r, hr, rfl⟩ := List.mem_map.mp hp
            exact .tail _ (hM3.objs r hr).1
          · exact .tail _ (hM3.sub _ (List.mem_append_right _ hp))
      · intro p hp q hq
        rcases List.mem_cons.mp hq with rfl | hq
        · exact Ne.symm (hM3.off p (hM3.sub p (List.mem_append_left _ hp)))
        · rcases List.mem_append.mp hq with hq | hq
          · obtain ⟨r, hr, rfl⟩ := List.mem_map.mp hq
            exact Nat.ne_of_gt ((hM3.objs r hr).2 p (List.mem_append_left _ hp))
          · exact ap1 p hp q hq
  case fin =>
    intro m₃ news₃ h8 tk8 dr8 hJ F₅ N₅
    obtain ⟨rl, nr, rws, hm, hpt, hsub, hb, hle⟩ := hJ
    have hd3 : (picks.map PickRow.plain).drop (picks.map PickRow.ref).toArray.size = [] := List.drop_eq_nil_of_le (by simp)
    rw [hd3] at hb
    unfold bookB at hb
    cases hb
    have F₆ := frKnowL [(Str.ofString "rows", .ref rl)] F₅ (by simpa using hm)
    clear F₅ N1 F1
    dsimp only
    k_steps
    refine Halt.mk ?_
    refine' for_empty ?F ?N rfl rfl (l := _) ?m ?he2 ?fin2
    case F => k_asm
    case N => k_asm
    case m => exact .head _
    case he2 =>
      k_steps
      exact ItAt.intro (by k_asm) (by k_asm) ⟨rfl, rfl⟩
    case fin2 =>
      intro h1 tk1 F1 N1
      dsimp only
      k_steps
      refine Halt.mk ?_
      rename Fr _ _ _ _ => F2
      rename News _ _ _ _ => N2
      obtain ⟨lv, xv, dv, elv, exv, edv⟩ := head3 N2
      subst elv exv edv
      have offb : ∀ o : Obj, ∀ p ∈ (xv, instObj 269 dv) :: (dv, o) :: news₃, p.1 ≠ lv := by
        intro o9
        rename (_ ∧ _ ∧ AllLt _ _) => l9
        exact List.forall_mem_cons.mpr ⟨Nat.ne_of_lt l9.1, List.forall_mem_cons.mpr ⟨Nat.ne_of_lt l9.2.1, fun p hp => Nat.ne_of_lt (allLtMem l9.2.2 p hp)⟩⟩
      refine' for_feedD (n := (rws.map PickRow.ref).toArray.size) (Item := fun i v ex => (rws.map PickRow.ref).toArray[i]? = some v ∧ ex = []) (S := fun news => (rl, W.listOf (rws.map PickRow.ref).toArray nr) ∈ news) F2 (fun j => JBook w xv dv lv rl news₃ ((rws.map PickRow.plain).take j)) ?he3 ?turn3 ?fin3
      case he3 =>
        k_steps
        refine Halt.mk ?_
        refine listFeedAt rfl ⟨_, _, rfl⟩ (by k_asm) N2 (.tail _ (.tail _ (.tail _ hpt.list))) ⟨0, [], _, rfl, rfl, rfl, offb _, ⟨.tail _ (.head _), ⟨_, .tail _ (.tail _ (.head _))⟩, .head _, List.forall_mem_nil _, List.forall_mem_nil _⟩, fun p hp => .tail _ (.tail _ hp), rfl⟩
      case turn3 =>
        intro j v own ex m₄ news₄ h5 tk5 dr5 hj it hJ hS ap F₁ N₁
        obtain ⟨n4, brows, R, hm1, hm2, rfl, hoff, hT, hB, hrows⟩ := hJ
        obtain ⟨hv, rfl⟩ := it
        rw [List.getElem?_toArray, List.getElem?_map] at hv
        obtain ⟨r4, hr4, rfl⟩ := Option.map_eq_some_iff.mp hv
        have hr4m := List.mem_of_getElem? hr4
        have F₄ := frKnowL [(Str.ofString "book", .ref xv), (Str.ofString "rows", .ref rl)] F₁ (by simpa using ⟨hm1, hm2⟩)
        clear F₁
        have ap3 : Apart own ((lv, W.listOf (brows.map Row.ref).toArray n4) :: R) := ap
        have N₄ : News _ _ h5 ((lv, W.listOf (brows.map Row.ref).toArray n4) :: (own ++ R)) := newsSub N₁ fun p hp => by
          simp only [List.mem_cons, List.mem_append, List.nil_append] at hp ⊢
          rcases hp with hp | hp | hp <;> simp [hp]
        clear N₁
        have hT4 : Tab w xv dv lv n4 brows ((lv, W.listOf (brows.map Row.ref).toArray n4) :: (own ++ R)) := hT.mono fun p hp => by
          rcases List.mem_cons.mp hp with rfl | hp
          · exact .head _
          · exact .tail _ (List.mem_append_right _ hp)
        have hoff4 : ∀ p ∈ own ++ R, p.1 ≠ lv := by
          intro p hp
          rcases List.mem_append.mp hp with hp | hp
          · exact Ne.symm (ap3 p hp (lv, W.listOf (brows.map Row.ref).toArray n4) (.head _))
          · exact hoff p hp
        have hw4 : Wd r4.k := hfw _ (List.mem_map_of_mem (f := PickRow.plain) hr4m)
        have hbl : brows.length ≤ 900 := by
          have h1 := congrArg List.length hrows
          rw [List.length_map, List.length_map] at h1
          rw [h1]
          refine Nat.le_trans (List.length_filter_le _ _) (Nat.le_trans (List.length_take_le' _ _) ?_)
          rw [List.length_map]
          exact hle
        have hsz4 : (brows.map Row.ref).toArray.size ≤ sizeLine := by
          rw [sizeLine_eq]
          simp
          omega
        have hro : (r4.a, r4.obj) ∈ (lv, W.listOf (brows.map Row.ref).toArray n4) :: (own ++ R) := .tail _ (List.mem_append_right _ (hB _ (hpt.objs r4 hr4m)))
        obtain ⟨hin, ⟨tkh, hdi⟩, hli, hrob, hok⟩ := id hT4
        have htk : (rws.map PickRow.plain).take (j + 1) = (rws.map PickRow.plain).take j ++ [r4.plain] := by
          rw [List.take_add_one, List.getElem?_map, hr4]
          rfl
        dsimp only [PickRow.ref]
        k_steps
        · rename (∃ q : Row, _) => hpost
          obtain ⟨qr, hk9, hv9, lt9, rfl⟩ := hpost
          rename Fr _ _ _ _ => F9
          rename News _ _ _ _ => N9
          rename (_ != _) = true => hq
          rw [st_ne] at hq
          show FeedEndD _ _ _ _ _ _ _
          refine FeedEndD.intro (news' := (lv, W.listOf ((brows ++ [qr]).map Row.ref).toArray (n4 + 1)) :: (qr.a, qr.obj) :: R) F9 N9 (fun p hp => .tail _ (.tail _ (List.mem_append_left _ hp))) ?_ ?_ (.tail _ (.tail _ (hB _ hpt.list))) ⟨n4 + 1, brows ++ [qr], (qr.a, qr.obj) :: R, rfl, rfl, rfl, ?_, hT.step ⟨by rw [hk9]; exact hw4⟩, fun p hp => .tail _ (hB p hp), ?_⟩
          · intro p hp
            rcases List.mem_cons.mp hp with rfl | hp
            · exact .tail _ (.head _)
            · rcases List.mem_cons.mp hp with rfl | hp
              · exact .head _
              · exact .tail _ (.tail _ (List.mem_append_right _ hp))
          · intro p hp q hq
            rcases List.mem_cons.mp hq with rfl | hq
            · exact ap3 p hp (lv, W.listOf (brows.map Row.ref).toArray n4) (.head _)
            · rcases List.mem_cons.mp hq with rfl | hq
              · exact Nat.ne_of_gt (lt9 p (.tail _ (List.mem_append_left _ hp)))
              · exact ap3 p hp q (.tail _ hq)
          · intro p hp
            rcases List.mem_cons.mp hp with rfl | hp
            · exact Nat.ne_of_gt (lt9 _ (.head _))
            · exact hoff p hp
          · rw [htk, List.filter_append, List.map_append, List.map_append, hrows]
            congr 1
            rw [List.filter_cons, hq, if_pos rfl]
            simp [hk9, hv9]
        · rename Fr _ _ _ _ => F9
          rename News _ _ _ _ => N9
          rename (_ != _) = false => hq
          rw [st_ne] at hq
          show FeedEndD _ _ _ _ _ _ _
          refine FeedEndD.intro (news' := (lv, W.listOf (brows.map Row.ref).toArray n4) :: R) F9 N9 (fun p hp => .tail _ (List.mem_append_left _ hp)) ?_ ap3 (.tail _ (hB _ hpt.list)) ⟨n4, brows, R, rfl, rfl, rfl, hoff, hT, hB, ?_⟩
          · intro p hp
            rcases List.mem_cons.mp hp with rfl | hp
            · exact .head _
            · exact .tail _ (List.mem_append_right _ hp)
          · rw [htk, List.filter_append, List.map_append, hrows, List.filter_cons, hq]
            simp
      case fin3 =>
        intro m₄ news₄ h5 tk5 dr5 hJ F₁ N₁
        obtain ⟨n4, brows, R, hm1, hm2, rfl, hoff, hT, hB, hrows⟩ := hJ
        have F₄ := frKnowL [(Str.ofString "book", .ref xv), (Str.ofString "rows", .ref rl)] F₁ (by simpa using ⟨hm1, hm2⟩)
        clear F₁
        dsimp only
        k_steps
        rw [List.take_of_length_le (by simp)] at hrows
        exact hret _ _ _ _ _ ⟨xv, dv, lv, n4, brows, rfl, hT, fun p hp => .tail _ (hB p (hsub p hp)), hrows⟩ (by k_asm) (by k_asm)

theorem price_mul {v x : Int} {n : Nat} (h : v = 2 ∨ v = 4 ∨ v = 8 ∨ v = 16) (e : v = (n : Int)) : IntMulOk x (n : Int) := by
  rw [← e]
  rcases h with rfl | rfl | rfl | rfl <;> exact IntMulOk.of_right (by decide)
/-- the words below 256, plain -/
def wsig (q : PRow) (ps : List PRow) : List PRow := (ps.filter fun s => decide (q.2 * s.2 < 256)).map fun s => (q.1 ++ s.1, q.2 * s.2)
def wstep (ps last : List PRow) : List PRow := last.flatMap fun q => wsig q ps
def wordsB (ps : List PRow) : Nat → List PRow → List PRow → Option (List PRow)
  | 0, _, _ => none
  | f + 1, words, last =>
    if last.isEmpty then some words
    else if words.length ≤ 400 && last.length ≤ 300 && last.all (fun q => q.1.length ≤ 50) then wordsB ps f (words ++ wstep ps last) (wstep ps last)
    else none
theorem Feed.weaken {prog : Program} {w : World} {A : Around} {h₀ : Heap} {L : Addr} {target : Expr} {I : Addr} {n : Nat} {St : Nat → List (Addr × Obj) → Prop} {Item : Nat → Value → List (Addr × Obj) → Prop} {S S' : List (Addr × Obj) → Prop} (Fd : Feed prog w A h₀ L target I n St Item S) (h : ∀ l, S' l → S l) : Feed prog w A h₀ L target I n St Item S' where
  item := fun i own news m s Q E hi st hS => Fd.item i own news m s Q E hi st (h _ hS)
  done := fun own news m s Q E st hS => Fd.done own news m s Q E st (h _ hS)
  self := Fd.self
/-- the words' loop -/
def WWords (Bs : List (Addr × Obj)) (ps fin : List PRow) (f : Nat) (m' : Str → Option Value) (news' : List (Addr × Obj)) : Prop :=
  ∃ (wl : Addr) (nw : Nat) (ws : List PickRow) (ll : Addr) (nl : Nat) (ls : List PickRow) (R : List (Addr × Obj)), m' (Str.ofString "words") = some (.ref wl) ∧ m' (Str.ofString "last") = some (.ref ll) ∧ news' = (wl, W.listOf (ws.map PickRow.ref).toArray nw) :: R ∧ (∀ p ∈ R, p.1 ≠ wl) ∧ PickTab ll nl ls R ∧ (∀ r ∈ ws, (r.a, r.obj) ∈ R) ∧ (∀ p ∈ Bs, p ∈ R) ∧ wordsB ps f (ws.map PickRow.plain) (ls.map PickRow.plain) = some fin
theorem ne_nil {prog : Program} {w : World} {A : Around} {E : Value → Shared → Prop} {s : Shared} {h₀ : Heap} {L ll el : Addr} {its : Array Value} {n n2 : Nat} {news : List (Addr × Obj)} {Q : Value → Shared → Prop} (N : News h₀ L s.heap news) (hm : (ll, W.listOf its n) ∈ news) (hm2 : (el, W.listOf #[] n2) ∈ news) (hu : A.units < cLine) (h : Q (.bool (its.size != 0)) s) :
    wpAny (model prog w) A (compareOp .NotEq (.ref ll) (.ref el)) Q E s := by
  show wpAny _ _ (richCompare .NotEq _ _) _ _ _
  cases hb : (its.size != 0) with
  | true =>
    rw [hb] at h
    exact PySem.SeqAt.RcNeAt.lists_lengths (N.isList hm) (N.isList hm2) hb hu _ _ _ _ h
  | false =>
    rw [hb] at h
    have h0 : its.size = (#[] : Array Value).size := by simpa using hb
    refine PySem.SeqAt.RcNeAt.lists (e := fun _ => true) (N.isList hm) (N.isList hm2) h0 hu (fun j h1 h2 => absurd h2 (by simp)) _ _ _ _ ?_
    have h3 : (!(List.range its.size).all fun _ => true) = false := by simp
    rw [h3]
    exact h
theorem kw53 : True := by
  k_with "compareOp NotEq ref ref" => (k_here; with_reducible refine halt ?_)
  exact True.intro
theorem kw54 : True := by
  k_with "exec Assign cons ListComp" => (k_here; (with_reducible show wpAny _ _ (exec (Stmt.Assign _ (Expr.ListComp _ [_, _] _ _) _) _) _ _ _); with_reducible refine halt ?_)
  exact True.intro
theorem wstep_snoc {ps l : List PRow} {q : PRow} : wstep ps (l ++ [q]) = wstep ps l ++ wsig q ps := by simp [wstep]
theorem wsig_snoc {q s : PRow} {l : List PRow} : wsig q (l ++ [s]) = wsig q l ++ (if q.2 * s.2 < 256 then [(q.1 ++ s.1, q.2 * s.2)] else []) := by
  unfold wsig
  rw [List.filter_append, List.map_append]
  congr 1
  by_cases h : q.2 * s.2 < 256 <;> simp [h]
/-- what the words' comprehension has so far -/
def WAcc (acc : List Value) (pr : List PRow) (news' : List (Addr × Obj)) : Prop := ∃ as : List PickRow, acc = as.map PickRow.ref ∧ as.map PickRow.plain = pr ∧ ∀ r ∈ as, (r.a, r.obj) ∈ news'
theorem FeedAt.weaken {prog : Program} {w : World} {A : Around} {h₀ : Heap} {L : Addr} {target : Expr} {n : Nat} {Item : Nat → Value → List (Addr × Obj) → Prop} {S S' : List (Addr × Obj) → Prop} {J J' : (Str → Option Value) → List (Addr × Obj) → Prop} {s s₁ : Shared} {it : Value} (H : FeedAt prog w A h₀ L target n Item S J s it s₁) (h : ∀ l, S' l → S l) (hJ : ∀ m l, J m l → J' m l ∧ S' l) : FeedAt prog w A h₀ L target n Item S' J' s it s₁ := by
  obtain ⟨I, St, own, h', tk, m₁, news₁, e, Fd, es, st, F, N, ap, hS, hj⟩ := H
  exact ⟨I, St, own, h', tk, m₁, news₁, e, Fd.weaken h, es, st, F, N, ap, (hJ _ _ hj).2, (hJ _ _ hj).1⟩
theorem objOf {o : Obj} {mC : Str → Option Value} (_ : PyProof.Rows.LCg.NsObj o mC) : ∃ o', o' = o := ⟨_, rfl⟩
/-- inside a word's signs -/
def WIn (wl : Addr) (r2 : PickRow) (pr : List PRow) (ps : List PRow) (i j : Nat) (acc : List Value) (mC m' : Str → Option Value) (news' : List (Addr × Obj)) : Prop :=
  m' (Str.ofString "words") = some (.ref wl) ∧ mC (Str.ofString "text") = some (.str (st r2.k) r2.tk) ∧ mC (Str.ofString "price") = some (.int (r2.v : Int) r2.tv) ∧ WAcc acc (pr ++ wsig r2.plain (ps.take j)) news' ∧ acc.length ≤ 3 * i + j ∧ j ≤ 3
theorem zipFeedThen {prog : Program} {w : World} {A : Around} {E : Value → Shared → Prop} {s : Shared} {h₀ : Heap} {L : Addr} {m : Str → Option Value} {news : List (Addr × Obj)} {elts : List Expr} {k} {pos : Pos} {b n1 n2 : Nat} {P1 P2 : Nat → Value → Prop} {SO1 SO2 : Nat → Obj → Prop} {rd1 rd2 : List (Addr × Obj)} {o1 o2 : Obj} {s₀ : Shared} {J : (Str → Option Value) → List (Addr × Obj) → Prop} {N2 : List (Addr × Obj)} {Q : Value → Shared → Prop}
    (D1 : Sub prog w A.in1 b n1 P1 SO1 rd1) (D2 : Sub prog w A.in1 (b + 1) n2 P2 SO2 rd2) (hs : ∃ h tk, s = { s₀ with heap := h, toks := tk }) (F : Fr h₀ L s.heap m) (N : News h₀ L s.heap N2) (hz : ∀ p ∈ zipOwn b o1 o2 .none .none, p ∈ N2) (hN : ∀ p ∈ news, p ∈ N2)
    (s1 : SO1 0 o1) (s2 : SO2 0 o2) (r1 : ∀ p ∈ rd1, p ∈ news) (r2 : ∀ p ∈ rd2, p ∈ news) (lt : ∀ p ∈ news, p.1 < b) (hJ : J m news)
    (h : ∀ it s₁, FeedAt prog w A h₀ L (.Tuple elts k pos) (min n1 n2) (ZipItem P1 P2) (fun news => (∀ p ∈ rd1, p ∈ news) ∧ ∀ p ∈ rd2, p ∈ news) J s₀ it s₁ → Q it s₁) :
    wpAny (model prog w) A (pyIter (.ref (b + 4))) Q E s := wpAny_mono (zipFeedAt (elts := elts) (k := k) (pos := pos) D1 D2 hs F N hz hN s1 s2 r1 r2 lt hJ) h fun _ _ e => e
theorem nsKnowL {o : Obj} {m : Str → Option Value} (ks : List (Str × Value)) (F : PyProof.Rows.LCg.NsObj o m) (e : ∀ p ∈ ks, m p.1 = some p.2) : PyProof.Rows.LCg.NsObj o (fun y => match ks.lookup y with | some v => some v | none => m y) := by
  have : (fun y => match ks.lookup y with | some v => some v | none => m y) = m := by
    funext y
    induction ks with
    | nil => rfl
    | cons p r ih =>
      rw [List.lookup_cons]
      by_cases q : (y == p.1) = true
      · rw [q, eq_of_beq q, e p (.head _)]
      · have q' : (y == p.1) = false := by simpa using q
        rw [q']
        exact ih fun z hz => e z (.tail _ hz)
  rw [this]
  exact F
theorem nsNotPair {h₀ h : Heap} {L C T : Addr} {oC : Obj} {m : Str → Option Value} {a b : Value} {news : List (Addr × Obj)} (N : News h₀ L h news) (hC : PyProof.Rows.LCg.NsObj oC m) (h1 : (C, oC) ∈ news) (h2 : (T, pairObj a b) ∈ news) : T ≠ C := fun e => by
  obtain ⟨es, ep, hd, _⟩ := hC
  have e1 := (N _ h1).1
  have e2 := (N _ h2).1
  simp only [e] at e2
  rw [e1] at e2
  have e3 : oC = pairObj a b := Option.some.inj e2
  rw [e3] at hd
  cases hd
theorem signAt {j c : Nat} (hj : j < 3) (hc : (Str.ofString "abc").cps[j]? = some c) : c = 97 + j := by
  have h0 : (Str.ofString "abc").cps = #[97, 98, 99] := by decide +kernel
  rw [h0] at hc
  match j, hj, hc with
  | 0, _, hc => simpa using hc.symm
  | 1, _, hc => simpa using hc.symm
  | 2, _, hc => simpa using hc.symm
theorem newsNe {h₀ h : Heap} {L a b : Addr} {o o' : Obj} {news : List (Addr × Obj)} (N : News h₀ L h news) (h1 : (a, o) ∈ news) (h2 : (b, o') ∈ news) (hne : o.cls ≠ o'.cls) : a ≠ b := fun e => by
  have e1 := (N _ h1).1
  have e2 := (N _ h2).1
  simp only [e] at e1
  rw [e1] at e2
  have e3 : o = o' := Option.some.inj e2
  exact hne (by rw [e3])
theorem extendM {prog : Program} {w : World} {A : Around} {E : Value → Shared → Prop} {s : Shared} {h₀ : Heap} {L D b : Addr} {m : Str → Option Value} {xs ys : List Value} {n n2 : Nat} {rest : List (Addr × Obj)} {Q : Value → Shared → Prop} (F : Fr h₀ L s.heap m) (N : News h₀ L s.heap ((D, W.listOf xs.toArray n) :: rest)) (off : ∀ p ∈ rest, p.1 ≠ D) (hb : (b, W.listOf ys.toArray n2) ∈ (D, W.listOf xs.toArray n) :: rest) (hz : xs.length ≤ 10000) (hz2 : ys.length ≤ 10000)
    (h : ∀ h' n', Fr h₀ L h' m → News h₀ L h' ((D, W.listOf (xs ++ ys).toArray n') :: rest) → Q .none { s with heap := h' }) : wpAny (model prog w) A (call (.builtin "list.extend") [.ref D, .ref b]) Q E s := by
  have hsl := sizeLine_eq
  have hd : ¬(!xs.toArray.isEmpty && Builtin.List.listTooLong (xs.toArray.size + ys.toArray.size)) = true := by
    have h1 : Builtin.List.listTooLong (xs.toArray.size + ys.toArray.size) = false := by
      unfold Builtin.List.listTooLong
      simp
      omega
    rw [h1]
    simp
  cases ys with
  | nil =>
    refine kxn_extend F N hb rfl (Upd.head off) hd (by simp; omega) (by simp; omega) fun h' F' N' => h h' n F' ?_
    rw [List.append_nil]
    exact N'
  | cons y ys =>
    exact kl_extend (l := xs ++ (y :: ys)) F N hb (by simp) (by simp) (Upd.head off) hd (by simp; omega) (by simp at hz2 ⊢; omega) fun h' F' N' => h h' _ F' N'

theorem words_con {w p loose mean mg mb} {nIn : List (Addr × Obj)} {pl : Addr} {np : Nat} {ps : List (Int × Tok)} {fin : List PRow} (hpl : (pl, W.listOf (ps.map fun q => Value.int q.1 q.2).toArray np) ∈ nIn)
    (hps : ∀ q ∈ ps, q.1 = 2 ∨ q.1 = 4 ∨ q.1 = 8 ∨ q.1 = 16) (hlen : ps.length ≤ 3) (hfin : wordsB (startRows ps) 12 [] [([], 1)] = some fin) :
    ConD w p loose mean mg mb 12 120 292 [.ref pl] [] nIn (fun r nOut => ∃ a n ws, r = .ref a ∧ PickTab a n ws nOut ∧ ws.map PickRow.plain = fin ∧ ∀ p ∈ nIn, p ∈ nOut) := by
  unfold ConD
  intro dp un gd cn cs a0 ccd cl outer A₀ base h₀ L m s Q E B F X N T hk hd hu hret
  refine wpAny_call ?_
  k_dflt (refine' code_defC ?k1 ?k2 ?k3 ?k4 ?k5 ?kA ?kF ?kK ?k6 ?k7 ?k8 ?k9 ?kB ?kD ?_ ?c2 ?c3 ?c4; (case kA => exact rfl); (case kF => exact rfl); (case kK => assumption); (case k1 => k_asm); (case k2 => k_asm); (case k3 => k_asm); (case k4 => k_asm); (case k5 => k_asm); (case k6 => k_is); (case k7 => k_is); (case k8 => ktr_room); (case k9 => first | exact BindsTo.of_eq rfl | exact binds_K (by k_in) rfl (by k_is) rfl rfl rfl | fail "k_enter: no rule for these arguments"); (case kB => exact rfl); (case kD => decide +kernel); (case c2 => exact rfl); (case c3 => exact rfl); (case c4 => exact rfl); k_whole; intro g' L' h' tk' cells' FG' F' N' Y' B' X' T' l1; k_cells Y'; (try simp only [List.cons_append, List.nil_append] at N'); (try dsimp only); (try k_lift B'); (try k_fold))
  clear B F N X T
  k_steps
  refine Halt.mk ?_
  rename News _ _ _ _ => N1
  rename Fr _ _ _ _ => F1
  rename Obj.data _ = Data.cell (some _) => hcell
  obtain ⟨ll0, D0, wl0, e1, e2, e3⟩ := head3 N1
  subst e1 e2 e3
  rename (_ ∧ _ ∧ _ ∧ AllLt _ _) => lA
  rename (_ ∧ AllLt _ nIn) => lB
  rename (∀ p ∈ (_ : List (Addr × Obj)), Prod.fst p < D0) => lC
  have e0 : Str.ofString "" = st [] := by rfl
  rw [e0] at N1
  rename Obj => oc
  obtain ⟨r0, hr0, hra, N2⟩ : ∃ r0 : PickRow, r0.plain = ([], 1) ∧ r0.a = D0 ∧ News _ _ _ ((ll0, W.listOf (([r0] : List PickRow).map PickRow.ref).toArray 0) :: (r0.a, r0.obj) :: (wl0, W.listOf (([] : List PickRow).map PickRow.ref).toArray 0) :: (L' + 1, oc) :: nIn) := ⟨⟨D0, [], _, 1, _⟩, rfl, rfl, N1⟩
  refine' while_inv (WWords ((L' + 1, oc) :: nIn) (startRows ps) fin) 12 F1 N2 ?start ?turn
  case start =>
    refine ⟨(wl0, W.listOf (([] : List PickRow).map PickRow.ref).toArray 0) :: (ll0, W.listOf (([r0] : List PickRow).map PickRow.ref).toArray 0) :: (r0.a, r0.obj) :: (L' + 1, oc) :: nIn, ?_, wl0, 0, [], ll0, 0, [r0], _, rfl, rfl, rfl, ?_, ⟨.head _, List.forall_mem_cons.mpr ⟨.tail _ (.head _), List.forall_mem_nil _⟩⟩, List.forall_mem_nil _, fun p hp => .tail _ (.tail _ hp), by rw [List.map_cons, hr0]; exact hfin⟩
    · intro p hp
      rcases List.mem_cons.mp hp with rfl | hp
      · exact .tail _ (.tail _ (.head _))
      · rcases List.mem_cons.mp hp with rfl | hp
        · exact .head _
        · rcases List.mem_cons.mp hp with rfl | hp
          · exact .tail _ (.head _)
          · exact .tail _ (.tail _ (.tail _ hp))
    · refine List.forall_mem_cons.mpr ⟨Nat.ne_of_gt lA.2.1, List.forall_mem_cons.mpr ⟨by rw [hra]; exact Nat.ne_of_gt (lC (wl0, W.listOf #[] 0) (.head _)), List.forall_mem_cons.mpr ⟨Nat.ne_of_lt lB.1, fun p hp => Nat.ne_of_lt (allLtMem lB.2 p hp)⟩⟩⟩
  case turn =>
    intro f m₂ news₂ h8 tk8 dr8 hI F₃ N₃
    obtain ⟨wl, nw, ws, ll, nl, ls, R, hm1, hm2, rfl, hoff, hll, hwo, hB, hf⟩ := hI
    have F₄ := frKnowL [(Str.ofString "words", .ref wl), (Str.ofString "last", .ref ll)] F₃ (by simpa using ⟨hm1, hm2⟩)
    clear F₃
    have hlist := hll.list
    k_steps
    refine Halt.mk ?_
    rename News _ _ _ _ => N5
    refine ne_nil N5 (.tail _ (.tail _ hll.list)) (.head _) (by ktr_units) ?_
    dsimp only
    cases f with
    | zero => cases hf
    | succ f =>
      unfold wordsB at hf
      cases ls with
      | nil =>
        simp only [List.map_nil, List.isEmpty_nil, if_true, Option.some.injEq] at hf
        have e1 : ((([] : List PickRow).map PickRow.ref).toArray.size != 0) = false := by simp
        rw [e1]
        k_steps
        dsimp only
        rename News _ _ _ _ => N9
        rename Fr _ _ _ _ => F9
        refine leaveK_ F9 N9 fun kF kN => ?_
        exact hret _ _ _ _ _ ⟨wl, nw, ws, rfl, ⟨.tail _ (.head _), fun r hr => .tail _ (.tail _ (hwo r hr))⟩, hf, fun p hp => .tail _ (.tail _ (hB p (.tail _ hp)))⟩ kF kN
      | cons r1 ls1 =>
        have e1 : (((r1 :: ls1).map PickRow.ref).toArray.size != 0) = true := by simp
        rw [e1]
        k_steps
        refine Halt.mk ?_
        rename News _ _ _ _ => N6
        rename Fr _ _ _ _ => F6
        obtain ⟨ls, hls⟩ : ∃ ls, ls = r1 :: ls1 := ⟨_, rfl⟩
        rw [← hls] at hll hf
        have hlne : (ls.map PickRow.plain).isEmpty = false := by rw [hls]; rfl
        rw [hlne] at hf
        simp only [Bool.false_eq_true, if_false] at hf
        split at hf
        case isFalse => cases hf
        case isTrue hc =>
        simp only [Bool.and_eq_true, decide_eq_true_eq, List.length_map, List.all_eq_true] at hc
        obtain ⟨⟨hwl, hll3⟩, hlk⟩ := hc
        obtain ⟨Bs2, hBs2, N7⟩ : ∃ Bs2, (∀ p ∈ (wl, W.listOf (ws.map PickRow.ref).toArray nw) :: R, p ∈ Bs2) ∧ News _ _ _ Bs2 := ⟨_, fun p hp => List.mem_cons_of_mem _ hp, N6⟩
        have hcB : (L' + 1, oc) ∈ Bs2 := hBs2 _ (.tail _ (hB _ (.head _)))
        have hplB : (pl, W.listOf (ps.map fun q => Value.int q.1 q.2).toArray np) ∈ Bs2 := hBs2 _ (.tail _ (hB _ (.tail _ hpl)))
        have hllB : (ll, W.listOf (ls.map PickRow.ref).toArray nl) ∈ Bs2 := hBs2 _ (.tail _ hll.list)
        have hsl : (startRows ps).length = ps.length := by unfold startRows; simp
        refine' comp2_assign (cl := [(Str.ofString "prices", L' + 1)]) (n := (ls.map PickRow.ref).toArray.size) (Item := fun i v ex => (ls.map PickRow.ref).toArray[i]? = some v ∧ ex = []) (S := fun news => ∀ p ∈ Bs2, p ∈ news) F6 rfl (fun i acc m' news' => m' (Str.ofString "words") = some (.ref wl) ∧ WAcc acc (wstep (startRows ps) ((ls.map PickRow.plain).take i)) news' ∧ acc.length ≤ 3 * i) (fun a b hab ha p hp => hab p (ha p hp)) ?hsw ?hclos ?hcell ?hkind ?hnames ?hy ?hpl2 ?he ?turn ?fin
        case hsw => with_unfolding_all rfl
        case hclos => with_unfolding_all rfl
        case hcell => decide
        case hkind => rfl
        case hnames => decide
        case hy => rfl
        case hpl2 => rfl
        case he =>
          k_steps
          refine Halt.mk ?_
          refine wpAny_mono (listFeedAt (J := fun m' news' => m' (Str.ofString "words") = some (.ref wl) ∧ news' = Bs2) rfl ⟨_, _, rfl⟩ (by k_asm) N7 hllB ⟨rfl, rfl⟩) (fun it s₁ hA => FeedAt.weaken hA (fun l hl => hl _ hllB) fun m' l hj => ⟨⟨hj.1, ⟨[], rfl, rfl, List.forall_mem_nil _⟩, Nat.le_refl _⟩, fun p hp => hj.2 ▸ hp⟩) fun _ _ e => e
        case turn =>
          intro C D i v own ex acc nD oC mC m₁ news₁ h tk hi it hoC hJ hS ap off hCD F₁ N₁
          obtain ⟨hmw, ⟨as, rfl, has, haso⟩, hlen⟩ := hJ
          obtain ⟨hv, rfl⟩ := it
          rw [List.getElem?_toArray, List.getElem?_map] at hv
          obtain ⟨r2, hr2, rfl⟩ := Option.map_eq_some_iff.mp hv
          have hr2m := List.mem_of_getElem? hr2
          obtain ⟨Z, hZ⟩ : ∃ Z, Z = own ++ ((D, W.listOf (as.map PickRow.ref).toArray nD) :: news₁) := ⟨_, rfl⟩
          have hro : (r2.a, r2.obj) ∈ news₁ := hS _ (hBs2 _ (.tail _ (hll.objs r2 hr2m)))
          have hcn : (L' + 1, oc) ∈ news₁ := hS _ hcB
          have hpn : (pl, W.listOf (ps.map fun q => Value.int q.1 q.2).toArray np) ∈ news₁ := hS _ hplB
          have N₂ : News _ _ h ((C, oC) :: (pl, W.listOf (ps.map fun q => Value.int q.1 q.2).toArray np) :: (r2.a, r2.obj) :: (L' + 1, oc) :: Z) := newsSub N₁ fun p hp => by
            subst hZ
            simp only [List.nil_append, List.mem_cons, List.mem_append] at hp ⊢
            rcases hp with rfl | rfl | rfl | rfl | hp | rfl | hp <;> first | (simp only [hp, hro, hcn, hpn, eq_self, true_or, or_true]; done) | (simp only [hro, hcn, hpn, eq_self, true_or, or_true]; done) | simp_all
          have off9 : ∀ p ∈ (pl, W.listOf (ps.map fun q => Value.int q.1 q.2).toArray np) :: (r2.a, r2.obj) :: (L' + 1, oc) :: Z, p.1 ≠ C := by
            intro p hp
            subst hZ
            rcases List.mem_cons.mp hp with rfl | hp
            · exact (off _ hpn).1
            · rcases List.mem_cons.mp hp with rfl | hp
              · exact (off _ hro).1
              · rcases List.mem_cons.mp hp with rfl | hp
                · exact (off _ hcn).1
                · rcases List.mem_append.mp hp with hp | hp
                  · exact Ne.symm (ap p hp (C, oC) (.head _))
                  · rcases List.mem_cons.mp hp with rfl | hp
                    · exact Ne.symm hCD
                    · exact (off p hp).1
          clear N6 N7
          dsimp only [PickRow.ref]
          k_steps
          rename News _ _ _ _ => N5
          rename Fr _ _ _ _ => F5
          rename (PyProof.Rows.LCg.NsObj _ _) => hoC5
          obtain ⟨oC5, e5⟩ := objOf hoC5
          subst e5
          rename (∀ p ∈ (C, oC5) :: _, Prod.fst p < _) => lt5
          have hb := Nat.ne_of_lt (Nat.lt_succ_of_lt (lt5 (pl, W.listOf (ps.map fun q => Value.int q.1 q.2).toArray np) (.tail _ (.head _))))
          have hsub5 : ∀ p ∈ own ++ ((C, oC5) :: (D, W.listOf (as.map PickRow.ref).toArray nD) :: news₁), p ∈ (C, oC5) :: (pl, W.listOf (ps.map fun q => Value.int q.1 q.2).toArray np) :: (r2.a, r2.obj) :: (L' + 1, oc) :: Z := by
            intro p hp
            subst hZ
            rcases List.mem_append.mp hp with hp | hp
            · exact .tail _ (.tail _ (.tail _ (.tail _ (List.mem_append_left _ hp))))
            · rcases List.mem_cons.mp hp with rfl | hp
              · exact .head _
              · exact .tail _ (.tail _ (.tail _ (.tail _ (List.mem_append_right _ hp))))
          have apOwn : Apart own news₁ := fun p hp q hq => ap p hp q (.tail _ (.tail _ hq))
          refine' zipFeedThen (s₀ := { s with heap := h, toks := tk, drawn := dr8 }) (news := own ++ ((C, oC5) :: (D, W.listOf (as.map PickRow.ref).toArray nD) :: news₁)) (J := fun m' news' => m' = m₁ ∧ news' = own ++ ((C, oC5) :: (D, W.listOf (as.map PickRow.ref).toArray nD) :: news₁)) (sub_str rfl _ _ _) (sub_list rfl _ _ hb _ _) ⟨_, _, rfl⟩ F5 N5 (fun p hp => List.mem_append_left _ hp) (fun p hp => List.mem_append_right _ (hsub5 p hp)) ⟨rfl, rfl⟩ ⟨rfl, rfl⟩ (List.forall_mem_nil _) (List.forall_mem_cons.mpr ⟨List.mem_append_right _ (.tail _ (.tail _ hpn)), List.forall_mem_nil _⟩) (fun p hp => lt5 p (hsub5 p hp)) ⟨rfl, rfl⟩ ?h
          case' h => (intro it s₁ hA)
          obtain ⟨I1, St1, own1, h5, tk5, m5, news5, rfl, Fd, rfl, st5, F6, N6, ap6, hS6, hm5, hn5⟩ := hA.out
          subst hm5
          subst hn5
          refine ⟨I1, _, St1, _, own1, h5, tk5, m5, oC5, _, news₁, WIn wl r2 (wstep (startRows ps) ((ls.map PickRow.plain).take i)) (startRows ps) i, rfl, Fd.weaken ?hwk, rfl, st5, F6, N6, ap6, apOwn, off, hS, hoC5, ⟨hmw, rfl, rfl, ⟨as, rfl, ?_, haso⟩, hlen, Nat.zero_le _⟩, ?_, ?turns, ?_⟩
          case hwk =>
            rintro l ⟨oC', oD', rest', hl, hS'⟩
            refine ⟨List.forall_mem_nil _, List.forall_mem_cons.mpr ⟨?_, List.forall_mem_nil _⟩⟩
            rw [hl]
            exact List.mem_append_right _ (.tail _ (.tail _ (hS' _ hplB)))
          case turns =>
            intro j v own2 ex acc2 nD2 oC2 mC2 m2 news2 h6 tk6 hj it2 hoC2 hJ2 hS2 ap1 ap0 off2 F8 N8
            obtain ⟨hw1, hct, hcp, ⟨as2, rfl, has2, haso2⟩, hlen2, hj3⟩ := hJ2
            obtain ⟨vx, vy, T5, ⟨c, u, hc, rfl⟩, hy, rfl, rfl⟩ := it2
            rw [List.getElem?_toArray, List.getElem?_map] at hy
            obtain ⟨q, hq, rfl⟩ := Option.map_eq_some_iff.mp hy
            have hqv := hps q (List.mem_of_getElem? hq)
            obtain ⟨qn, hqn⟩ : ∃ qn : Nat, q.1 = (qn : Int) := ⟨q.1.toNat, price_nat hqv⟩
            have hj4 : j < 3 := Nat.lt_of_lt_of_le hj (Nat.le_trans (Nat.min_le_left _ _) (by decide +kernel))
            have hc3 := signAt hj4 hc
            have hcs : (⟨#[c]⟩ : Str) = st [c] := rfl
            rw [hqn, hcs] at N8
            have hTC : T5 ≠ C := nsNotPair (a := .str (st [c]) u) (b := .int (qn : Int) q.2) N8 hoC2 (List.mem_append_right _ (List.mem_append_right _ (List.mem_append_right _ (.head _)))) (List.mem_append_right _ (.head _))
            obtain ⟨Z2, hZ2⟩ : ∃ Z2, Z2 = own2 ++ (own ++ ((D, W.listOf (as2.map PickRow.ref).toArray nD2) :: news2)) := ⟨_, rfl⟩
            have N9 : News _ _ h6 ((C, oC2) :: (T5, pairObj (.str (st [c]) u) (.int (qn : Int) q.2)) :: Z2) := newsSub N8 fun p hp => by
              subst hZ2
              simp only [List.cons_append, List.nil_append, List.mem_cons, List.mem_append] at hp ⊢
              rcases hp with rfl | rfl | hp | hp | rfl | hp <;> first | (simp only [hp, eq_self, true_or, or_true]; done) | (simp only [eq_self, true_or, or_true]; done) | simp_all
            have apT : ∀ p ∈ own2, p.1 ≠ C := fun p hp => Ne.symm (ap1 p hp (C, oC2) (by simp))
            have apO : ∀ p ∈ own, p.1 ≠ C := fun p hp => Ne.symm (ap p hp (C, oC) (.head _))
            have off9 : ∀ p ∈ (T5, pairObj (.str (st [c]) u) (.int (qn : Int) q.2)) :: Z2, p.1 ≠ C := by
              intro p hp
              subst hZ2
              rcases List.mem_cons.mp hp with rfl | hp
              · exact hTC
              · rcases List.mem_append.mp hp with hp | hp
                · exact apT p hp
                · rcases List.mem_append.mp hp with hp | hp
                  · exact apO p hp
                  · rcases List.mem_cons.mp hp with rfl | hp
                    · exact Ne.symm hCD
                    · exact (off2 p hp).1
            have hoC9 := nsKnowL [(Str.ofString "text", .str (st r2.k) r2.tk), (Str.ofString "price", .int (r2.v : Int) r2.tv)] hoC2 (by simpa using ⟨hct, hcp⟩)
            have hmul9 : IntMulOk (r2.v : Int) (qn : Int) := price_mul hqv hqn
            have hlk2 : r2.k.length ≤ 200 := Nat.le_trans (hlk _ (List.mem_map_of_mem (f := PickRow.plain) hr2m)) (by decide)
            have hlc2 : ([c] : List Nat).length ≤ 200 := Nat.le_of_ble_eq_true rfl
            have hqt : q.1.toNat = qn := by rw [hqn]; rfl
            have htk : (startRows ps).take (j + 1) = (startRows ps).take j ++ [([c], qn)] := by
              rw [List.take_add_one, start_at hq, hqt, hc3]
              rfl
            clear N8 hoC5 hoC2 hoC
            k_steps
            · rename News _ _ _ _ => N10
              rename Fr _ _ _ _ => F10
              rename (PyProof.Rows.LCg.NsObj _ _) => hC10
              obtain ⟨oC3, e3⟩ := objOf hC10
              subst e3
              rename (∀ p ∈ (C, oC3) :: _, Prod.fst p < _) => lt10
              rename (_ < (256 : Int)) => hlt
              have hlt' : r2.v * qn < 256 := by exact_mod_cast hlt
              obtain ⟨DD, hDD⟩ := headAddr N10
              subst hDD
              obtain ⟨pn, hpa, hpn, lt11, N11⟩ : ∃ pn : PickRow, pn.a = DD ∧ pn.plain = (r2.k ++ [c], r2.v * qn) ∧ (∀ p ∈ (C, oC3) :: (T5, pairObj (.str (st [c]) u) (.int (qn : Int) q.2)) :: Z2, @LT.lt Nat _ p.1 pn.a) ∧ News _ _ _ ((pn.a, pn.obj) :: (C, oC3) :: (T5, pairObj (.str (st [c]) u) (.int (qn : Int) q.2)) :: Z2) := ⟨⟨_, r2.k ++ [c], _, r2.v * qn, _⟩, rfl, rfl, lt10, by have := N10; rw [← Int.natCast_mul] at this; exact this⟩
              rw [← hpa]
              subst hZ2
              refine Turn1.intro (news' := (pn.a, pn.obj) :: news2) F10 N11 ?_ hC10 ?_ ?_ ?_ (fun p hp => .tail _ (hS2 p hp)) ⟨hw1, rfl, rfl, ⟨as2 ++ [pn], by simp, ?_, ?_⟩, ?_, by omega⟩
              · intro p hp
                simp only [List.mem_cons, List.mem_append] at hp ⊢
                rcases hp with hp | hp | hp | hp | hp | hp <;> simp [hp]
              · intro p hp q' hq'
                rcases List.mem_cons.mp hq' with rfl | hq'
                · exact Nat.ne_of_gt (lt11 p (by simp [hp]))
                · exact ap1 p hp q' (by simp [hq'])
              · intro p hp q' hq'
                rcases List.mem_cons.mp hq' with rfl | hq'
                · exact Nat.ne_of_gt (lt11 p (by simp [hp]))
                · exact ap0 p hp q' hq'
              · intro p hp
                rcases List.mem_cons.mp hp with rfl | hp
                · exact ⟨Nat.ne_of_gt (lt11 (C, oC3) (by simp)), Nat.ne_of_gt (lt11 (D, W.listOf (as2.map PickRow.ref).toArray nD2) (by simp))⟩
                · exact off2 p hp
              · rw [htk, wsig_snoc, if_pos hlt', List.map_append, has2, List.append_assoc, List.map_cons, List.map_nil, hpn]
              · intro r hr
                rcases List.mem_append.mp hr with hr | hr
                · exact .tail _ (haso2 r hr)
                · rw [List.mem_singleton.mp hr]
                  exact .head _
              · simp only [List.length_append, List.length_map, Option.toList_some, List.length_singleton] at hlen2 ⊢
                omega
            · rename News _ _ _ _ => N10
              rename Fr _ _ _ _ => F10
              rename (PyProof.Rows.LCg.NsObj _ _) => hC10
              obtain ⟨oC3, e3⟩ := objOf hC10
              subst e3
              rename (¬ (_ < (256 : Int))) => hlt
              have hlt' : ¬ (r2.v * qn < 256) := fun h => hlt (by exact_mod_cast h)
              subst hZ2
              refine Turn1.intro (news' := news2) F10 N10 ?_ hC10 (fun p hp q' hq' => ap1 p hp q' (by simp [hq'])) ap0 off2 hS2 ⟨hw1, rfl, rfl, ⟨as2, by simp, ?_, haso2⟩, ?_, by omega⟩
              · intro p hp
                simp only [List.mem_cons, List.mem_append] at hp ⊢
                rcases hp with hp | hp | hp | hp | hp <;> simp [hp]
              · rw [htk, wsig_snoc, if_neg hlt', has2]
                simp
              · simp only [List.length_append, List.length_map, Option.toList_none, List.length_nil] at hlen2 ⊢
                omega
          · rw [has]; simp [wsig]
          · rintro j acc mC' m' news' ⟨_, _, _, _, h1, h2⟩
            have h3 : i < ls.length := (List.getElem?_eq_some_iff.mp hr2).1
            rw [sizeLine_eq]
            omega
          · rintro acc mC' m' news' ⟨h1, _, _, ⟨as', e1, e2, e3⟩, h4, h5⟩
            have h0 : (Str.ofString "abc").cps = #[97, 98, 99] := by decide +kernel
            rw [h0] at e2 h4
            have hn : min (#[97, 98, 99] : Array Nat).size (ps.map fun q => Value.int q.1 q.2).toArray.size = ps.length := by simp; omega
            rw [hn] at e2 h4
            refine ⟨h1, ⟨as', e1, ?_, e3⟩, by omega⟩
            have hr2' : (ls.map PickRow.plain)[i]? = some r2.plain := by rw [List.getElem?_map, hr2]; rfl
            rw [List.take_add_one, hr2', e2, List.take_of_length_le (l := startRows ps) (by omega)]
            simp only [Option.toList_some]
            rw [wstep_snoc]
        case fin =>
          intro D acc nD m₁ news₁ h tk hJ hS off F₁ N₁
          obtain ⟨hmw, ⟨as, rfl, has, haso⟩, hlen⟩ := hJ
          have hwlm : (wl, W.listOf (ws.map PickRow.ref).toArray nw) ∈ news₁ := hS _ (hBs2 _ (.head _))
          have N₂ : News _ _ h ((wl, W.listOf (ws.map PickRow.ref).toArray nw) :: (D, W.listOf (as.map PickRow.ref).toArray nD) :: (as.map (fun r => (r.a, r.obj)) ++ R)) := newsSub N₁ fun p hp => by
            rcases List.mem_cons.mp hp with rfl | hp
            · exact .tail _ hwlm
            · rcases List.mem_cons.mp hp with rfl | hp
              · exact .head _
              · rcases List.mem_append.mp hp with hp | hp
                · obtain ⟨r, hr, rfl⟩ := List.mem_map.mp hp
                  exact .tail _ (haso r hr)
                · exact .tail _ (hS _ (hBs2 _ (.tail _ hp)))
          have hoff2 : ∀ p ∈ as.map (fun r => (r.a, r.obj)) ++ R, p.1 ≠ wl := by
            intro p hp
            rcases List.mem_append.mp hp with hp | hp
            · obtain ⟨r, hr, rfl⟩ := List.mem_map.mp hp
              exact newsNe N₁ (.tail _ (haso r hr)) (.tail _ hwlm) (by intro e; simp at e)
            · exact hoff p hp
          have hDw : D ≠ wl := Ne.symm (off _ hwlm)
          have F₂ := frKnowL [(Str.ofString "words", .ref wl), (Str.ofString "last", .ref D)] F₁ (by
            intro p hp
            rcases List.mem_cons.mp hp with rfl | hp
            · exact hmw
            · rw [List.mem_singleton.mp hp]; rfl)
          clear F₁ N₁ N6 F6 N7
          dsimp only
          k_steps
          rename News _ _ _ _ => N5
          rename Fr _ _ _ _ => F5
          have hal : as.length ≤ 900 := by
            rw [List.length_map] at hlen
            have : (ls.map PickRow.ref).toArray.size = ls.length := by simp
            omega
          refine extendM F5 N5 (List.forall_mem_cons.mpr ⟨hDw, hoff2⟩) (.tail _ (.head _)) (by rw [List.length_map]; omega) (by rw [List.length_map]; omega) fun h9 n9 F9 N9 => ?_
          dsimp only
          k_steps
          rename News _ _ _ _ => N10
          rename Fr _ _ _ _ => F10
          have hof : (ls.map PickRow.plain).take (ls.map PickRow.ref).toArray.size = ls.map PickRow.plain := List.take_of_length_le (by simp)
          rw [hof] at has
          show WhileEnd _ _ _ _ _ _
          refine WhileEnd.intro (j := f) (news' := (wl, W.listOf ((ws ++ as).map PickRow.ref).toArray n9) :: (D, W.listOf (as.map PickRow.ref).toArray nD) :: (as.map (fun r => (r.a, r.obj)) ++ R)) F10 N10 ?_ (Nat.lt_succ_self _) ⟨wl, n9, ws ++ as, D, nD, as, _, rfl, rfl, rfl, List.forall_mem_cons.mpr ⟨hDw, hoff2⟩, ⟨.head _, fun r hr => .tail _ (List.mem_append_left _ (List.mem_map_of_mem (f := fun r => (r.a, r.obj)) hr))⟩, ?_, fun p hp => .tail _ (List.mem_append_right _ (hB p hp)), ?_⟩
          · intro p hp
            rw [List.map_append] at hp
            exact hp
          · intro r hr
            rcases List.mem_append.mp hr with hr | hr
            · exact .tail _ (List.mem_append_right _ (hwo r hr))
            · exact .tail _ (List.mem_append_left _ (List.mem_map_of_mem (f := fun r => (r.a, r.obj)) hr))
          · rw [List.map_append, has]
            exact hf

/-- the range iterator as a feed -/
def rangeIt (i n : Nat) : Obj := { cls := .type "range_iterator", dict := none, data := .fields #[rawInt (i : Int), rawInt ((n : Int) - (i : Int)), rawInt 1], slots := #[] }
def RangeSt (I : Addr) (n i : Nat) (own : List (Addr × Obj)) : Prop := own = [(I, rangeIt i n)]
section
variable {prog : Program} {w : World} {A : Around} {h₀ : Heap} {L : Addr}
theorem feed_range (hh : A.handled = none) (I : Addr) (n : Nat) (x : Str) (px : Pos) : Feed prog w A h₀ L (.Name x px) I n (RangeSt I n) (fun i v ex => (∃ u, v = .int (i : Int) u) ∧ ex = []) (fun _ => True) where
  item := by
    rintro i own news m s Q E hlt rfl _ F N ap hQ
    have hit : PySem.IsRangeIter s.heap I (i : Int) ((n : Int) - (i : Int)) 1 := (N _ (List.mem_append_left _ (.head _))).1
    have hI := (N _ (List.mem_append_left _ (.head _))).2
    refine PySem.wpAny_pyNext_range_item (Q := fun r s₁ => match r with | none => False | some v => wpAny (model prog w) A (letOwnedTupleGo (.Name x px) (.ref I) v) (fun _ s₂ => Q v s₂) E s₁) hit (by omega) (fun h₁ hit₁ hs₁ => ?_)
    have off : ∀ p ∈ news, p.1 ≠ I := fun p hp => ap _ (.head _) p hp
    refine wpAny_of_eq (a := ()) (by rfl) ?_
    have e1 : (i : Int) + 1 = ((i + 1 : Nat) : Int) := by omega
    have e2 : (n : Int) - (i : Int) - 1 = (n : Int) - ((i + 1 : Nat) : Int) := by omega
    rw [e1, e2] at hit₁
    refine hQ _ [(I, rangeIt (i + 1) n)] [] h₁ (s.toks + 1) rfl ⟨⟨_, rfl⟩, rfl⟩ (fun p hp q hq => ?_) (F.change hs₁ hI.1 hI.2) fun p hp => ?_
    · rw [List.mem_singleton.mp hp]; exact off q hq
    · rcases List.mem_append.mp hp with hp | hp
      · rw [List.mem_singleton.mp hp]; exact ⟨hit₁, hI⟩
      · have z := N p (List.mem_append_right _ hp)
        exact ⟨hs₁.extBut _ _ (off p hp) z.1, z.2⟩
  done := by
    rintro own news m s Q E rfl _ F N ap hQ
    have hit : PySem.IsRangeIter s.heap I (n : Int) ((n : Int) - (n : Int)) 1 := (N _ (List.mem_append_left _ (.head _))).1
    have hI := (N _ (List.mem_append_left _ (.head _))).2
    have off : ∀ p ∈ news, p.1 ≠ I := fun p hp => ap _ (.head _) p hp
    refine PySem.wpAny_pyNext_range_end (Q := fun r s₁ => match r with | none => Q s₁ | some _ => False) hh hit (by omega) fun h₁ he₁ => ?_
    refine hQ h₁ s.toks ⟨F.ns.at' fun o e => he₁ _ o (Ne.symm hI.1) e, fun b o e => he₁ b o (fun z => by rw [z, hI.2] at e; cases e) (F.keep b o e), F.above⟩ fun p hp => ?_
    have z := N p (List.mem_append_right _ hp)
    exact ⟨he₁ _ _ (off p hp) z.1, z.2⟩
  self := by
    rintro i own s Q E rfl N hQ
    exact PySem.wpAny_pyIter_rangeiter (N _ (.head _)).1 hQ
theorem rangeFeedAt {E : Value → Shared → Prop} {s s₀ : Shared} {r : Addr} {n : Nat} {t u v : Tok} {x : Str} {px : Pos} {m : Str → Option Value} {news : List (Addr × Obj)} {J : (Str → Option Value) → List (Addr × Obj) → Prop} (hh : A.handled = none) (hs : ∃ h tk, s = { s₀ with heap := h, toks := tk }) (F : Fr h₀ L s.heap m) (N : News h₀ L s.heap news) (hr : PySem.IsRange s.heap r 0 (n : Int) 1 t u v) (hsm : Builtin.Range.small 0 (n : Int) 1 = true) (hJ : J m news) :
    wpAny (model prog w) A (pyIter (.ref r)) (FeedAt prog w A h₀ L (.Name x px) n (fun i v ex => (∃ u, v = .int (i : Int) u) ∧ ex = []) (fun _ => True) J s₀) E s := by
  obtain ⟨h, tk, rfl⟩ := hs
  refine PySem.wpAny_pyIter_range hr hsm ?_
  have hn : Builtin.Range.rangeSize 0 (n : Int) 1 = (n : Int) := by rw [rangeSize_nat]; omega
  rw [hn]
  refine ⟨_, RangeSt _ n, [(h.objs.size, rangeIt 0 n)], _, _, m, news, rfl, feed_range hh _ n x px, rfl, rfl, F.push _, ?_, fun p hp q hq => by rw [List.mem_singleton.mp hp]; exact Nat.ne_of_lt (Heap.lt_size (N q hq).1), trivial, hJ⟩
  have e : rangeIt 0 n = { cls := .type "range_iterator", dict := none, data := .fields #[rawInt 0, rawInt (n : Int), rawInt 1] } := by simp [rangeIt]
  rw [e]
  exact N.push F _
end
section
variable {prog : Program} {w : World} {A : Around} {E : Value → Shared → Prop} {s : Shared} {env : Env} {h₀ : Heap} {L : Addr} {Q : Value → Shared → Prop}
open PyProof.Rows.LCg (NsObj ns_obj)
abbrev sc1 (elt target iter : Expr) (scope : Scope) (pos : Pos) : Expr := .SetComp elt [⟨target, iter, [], 0⟩] scope pos
theorem compTurn_set (elt target iter : Expr) (scope : Scope) (pos : Pos) (it acc : Value) (env : Env) :
    compTurn (sc1 elt target iter scope pos) 0 it acc env = (do
      standAt iter.pos
      match ← pyNext it with
      | none => pure (.done .next)
      | some v =>
        letOwnedTupleGo target it v
        assign target env v
        (do let v ← eval elt env; standAt elt.pos; let _ ← call (.builtin "set.add") [acc, v])
        again (.compLoop (sc1 elt target iter scope pos) 0 it acc env)) := by rfl
theorem compLoop_set {elt target iter : Expr} {scope : Scope} {pos : Pos} {it acc : Value} {R : Result → Shared → Prop} (I : Nat → Shared → Prop)
    (turn : ∀ k s, I k s → wpAny (model prog w) A (pyNext it) (fun r s₁ => match r with
      | none => R (.ok .next) s₁
      | some v => wpAny (model prog w) A (letOwnedTupleGo target it v) (fun _ s₁' => wpAny (model prog w) A (assign target env v) (fun _ s₂ => wpAny (model prog w) A (eval elt env) (fun x s₄ => wpAny (model prog w) A (call (.builtin "set.add") [acc, x]) (fun _ s₅ => ∃ m, m < k ∧ I m s₅) (fun _ _ => False) s₄) (fun _ _ => False) s₂) (fun _ _ => False) s₁') (fun _ _ => False) s₁) (fun _ _ => False) s)
    (k : Nat) (h : I k s) : codeAny (model prog w) A (.compLoop (sc1 elt target iter scope pos) 0 it acc env) R s := by
  refine codeAny_loop rfl I (fun k s hI => ?_) k h
  show wpAny _ A ((compTurn (sc1 elt target iter scope pos) 0 it acc env).onRaise (fun x => do noteFrame x env; theTreesLotGoes x)) _ _ s
  refine wpAny_noted ?_
  rw [compTurn_set]
  refine wpAny_bind (wpAny_standAt (wpAny_bind (wpAny_mono (turn k s hI) (fun r s₁ h₁ => ?_) fun _ _ h' => h'.elim)))
  cases r with
  | none => exact wpAny_pure h₁
  | some v =>
    refine wpAny_bind (wpAny_mono h₁ (fun _ s₁' h₁' => wpAny_bind (wpAny_mono h₁' (fun _ s₂ h₂ => ?_) fun _ _ h' => h'.elim)) fun _ _ h' => h'.elim)
    exact wpAny_bind (wpAny_bind (wpAny_mono h₂ (fun x s₄ h₄ => wpAny_bind (wpAny_standAt (wpAny_bind (wpAny_mono h₄ (fun _ s₅ h₅ => wpAny_pure (wpAny_pure ⟨rfl, h₅⟩)) fun _ _ h' => h'.elim)))) fun _ _ h' => h'.elim))
theorem compStart_set {elt target iter : Expr} {scope : Scope} {pos : Pos} {it acc : Value} {R : Result → Shared → Prop}
    (h0 : codeAny (model prog w) A (.compLoop (sc1 elt target iter scope pos) 0 it acc env) R s)
    (h : wpAny (model prog w) A (pyIter it) (fun it' s' => codeAny (model prog w) A (.compLoop (sc1 elt target iter scope pos) 0 it' acc env) R s')
      (notedBy (model prog w) A env fun x s' => R (.error x) s') s) :
    codeAny (model prog w) A (.compStart (sc1 elt target iter scope pos) 0 it acc env) R s := by
  refine codeAny_of_tree ?_
  show wpAny _ _ ((compStart (sc1 elt target iter scope pos) 0 it acc env).onRaise (fun x => do noteFrame x env; standAt theWindowsPlace)) _ _ s
  refine wpAny_notedAt ?_
  unfold compStart
  show wpAny _ _ (ask >>= _) _ _ s
  refine wpAny_bind (wpAny_askSetting (wpAny_ite ?_))
  split
  · first
      | exact wpAny_bind (wpAny_pure (wpAny_pure (And.intro rfl h0)))
      | exact wpAny_pure (And.intro rfl h0)
  · first
      | exact wpAny_bind (wpAny_rule (wpAny_bind (wpAny_standAt (wpAny_bind (wpAny_mono h (fun it' s' h' => wpAny_pure (And.intro rfl h')) fun _ _ x => x)))))
      | (refine wpAny_bind (wpAny_rule ?_); show wpAny _ _ (standAt iter.pos >>= _) _ _ s; exact wpAny_bind (wpAny_standAt (wpAny_bind (wpAny_mono h (fun it' s' h' => wpAny_pure (And.intro rfl h')) fun _ _ x => x))))
/-- a set comprehension's turn is over -/
def STurn (h₀ : Heap) (L C D : Addr) (own : List (Addr × Obj)) (S : List (Addr × Obj) → Prop) (oD : Obj) (J : Str → (Str → Option Value) → List (Addr × Obj) → Prop) (s : Shared) (x : Value) (s' : Shared) : Prop :=
  ∃ h' tk m' oC mC news' xs t, s' = { s with heap := h', toks := tk } ∧ x = .str xs t ∧ Fr h₀ L h' m' ∧ News h₀ L h' (own ++ ((C, oC) :: (D, oD) :: news')) ∧ NsObj oC mC ∧ Apart own news' ∧ (∀ p ∈ news', p.1 ≠ C ∧ p.1 ≠ D) ∧ S news' ∧ J xs m' news'
theorem STurn.intro {h₀ : Heap} {L C D : Addr} {own : List (Addr × Obj)} {S : List (Addr × Obj) → Prop} {oD : Obj} {J : Str → (Str → Option Value) → List (Addr × Obj) → Prop} {s : Shared} {xs : Str} {t : Tok} {h' : Heap} {tk : Nat} {m' : Str → Option Value} {oC : Obj} {mC : Str → Option Value} {news' N2 : List (Addr × Obj)}
    (F : Fr h₀ L h' m') (N : News h₀ L h' N2) (hn : ∀ p ∈ own ++ ((C, oC) :: (D, oD) :: news'), p ∈ N2) (hC : NsObj oC mC) (a : Apart own news') (off : ∀ p ∈ news', p.1 ≠ C ∧ p.1 ≠ D) (hS : S news') (hJ : J xs m' news') : STurn h₀ L C D own S oD J s (.str xs t) { s with heap := h', toks := tk } :=
  ⟨h', tk, m', oC, mC, news', xs, t, rfl, rfl, F, newsSub N hn, hC, a, off, hS, hJ⟩
/-- a set comprehension of texts over any feed -/
theorem scomp_feed {elt target iter : Expr} {scope : Scope} {pos : Pos} {cl : List (Str × Addr)} {m₀ : Str → Option Value} {n : Nat} {Item : Nat → Value → List (Addr × Obj) → Prop} {S : List (Addr × Obj) → Prop} (_F : Fr h₀ L s.heap m₀)
    (J : Nat → (Str → Bool) → Nat → (Str → Option Value) → List (Addr × Obj) → Prop) (hS : ∀ a b, (∀ p ∈ a, p ∈ b) → S a → S b) (hJn : ∀ i T k m news, J i T k m news → k ≤ 1000)
    (hclos : closureFor scope env = pure cl) (hcell : ∀ y ∈ scope.names, y.2 ≠ .cell) (hkind : scope.kind = .function) (hnames : ∀ y ∈ scope.names, y.2 = .local → scope.names.lookup y.1 = some .local)
    (he : wpAny (model prog w) A (eval iter env) (fun xv s₁ => wpAny (model prog w) A (pyIter xv) (FeedAt prog w A h₀ L target n Item S (J 0 (fun _ => false) 0) s) E s₁) E s)
    (turn : ∀ C D i v own ex T k oD oC mC m₁ news₁ h tk, i < n → Item i v ex → NsObj oC mC → oD.SetObjOf (PySem.strKind prog w) T k → J i T k m₁ news₁ → S news₁ → Apart own (ex ++ ((C, oC) :: (D, oD) :: news₁)) → (∀ p ∈ news₁, p.1 ≠ C ∧ p.1 ≠ D) → C ≠ D → Fr h₀ L h m₁ → News h₀ L h (own ++ (ex ++ ((C, oC) :: (D, oD) :: news₁))) →
      wpAny (model prog w) A (assign target (compEnvC scope cl C env) v) (fun _ s₂ => wpAny (model prog w) A (eval elt (compEnvC scope cl C env)) (fun x s₄ => STurn h₀ L C D own S oD (fun xs => J (i + 1) (fun y => T y || decide (y = xs)) (if T xs then k else k + 1)) { s with heap := h, toks := tk } x s₄) (fun _ _ => False) s₂) (fun _ _ => False) { s with heap := h, toks := tk })
    (fin : ∀ D oD T k m₁ news₁ h tk, J n T k m₁ news₁ → oD.SetObjOf (PySem.strKind prog w) T k → S news₁ → (∀ p ∈ news₁, p.1 ≠ D) → Fr h₀ L h m₁ → News h₀ L h ((D, oD) :: news₁) → Q (.ref D) { s with heap := h, toks := tk })
    (hs : ∀ x, foldedSetIterable iter env x = pure x := by intro _; rfl) :
    wpAny (model prog w) A (eval (sc1 elt target iter scope pos) env) Q E s := by
  show wpAny _ A (comprehension (sc1 elt target iter scope pos) scope env _ (newSet (.type "set")) false (eval iter env)) _ _ s
  refine wpAny_comprehension_free (use := none) rfl hs hclos hkind hnames (wpAny_mono he (fun xv s₁ h₁ => wpAny_mono h₁ (fun it s₂ h₂ => ?_) fun _ _ e => e) fun _ _ e => e)
  obtain ⟨⟨I, St, own, h, tk, m, news, rfl, Fd, rfl, st, F, N, ap, hSn, hJ⟩⟩ := h₂
  refine wpAny_newSet_of (knd := PySem.intKind prog w) fun led _ => ?_
  have FA := F.push ({ cls := .type "set", dict := none, data := .set #[] 0 (.fresh 0 0 led) } : Obj)
  have NA := N.push F ({ cls := .type "set", dict := none, data := .set #[] 0 (.fresh 0 0 led) } : Obj)
  generalize hAe : h.push ({ cls := .type "set", dict := none, data := .set #[] 0 (.fresh 0 0 led) } : Obj) = hA at FA NA ⊢
  dsimp only at FA NA ⊢
  have lt9 : ∀ p ∈ own ++ news, p.1 < h.objs.size := fun p hp => Heap.lt_size (N p hp).1
  have hset := setObjOf_fresh (knd := PySem.strKind prog w) led
  obtain ⟨oD, hoD⟩ : ∃ oD : Obj, oD = { cls := .type "set", dict := none, data := .set #[] 0 (.fresh 0 0 led) } := ⟨_, rfl⟩
  rw [← hoD] at NA hset
  have hDlt : h.objs.size < hA.objs.size := Heap.lt_size (NA _ (.head _)).1
  generalize hDe : h.objs.size = D at NA lt9 hDlt ⊢
  refine wpAny_newFunctionEnv hcell (by intro y hy; simp at hy) (fun h₁ hns₁ hsb₁ => ?_) hkind
  dsimp only at hns₁ hsb₁ ⊢
  generalize hCe : hA.objs.size = C at hns₁ hsb₁ hDlt ⊢
  obtain ⟨oC, heC, hoC⟩ := ns_obj hns₁
  have hC0 : h₀.get? C = none := by
    cases e : h₀.get? C with
    | none => rfl
    | some o' => exact absurd (Heap.lt_size (FA.keep _ _ e)) (by rw [hCe]; exact Nat.lt_irrefl _)
  have hCL : C ≠ L := by rw [← hCe]; exact Nat.ne_of_gt FA.ns.lt
  have hCD : C ≠ D := Nat.ne_of_gt hDlt
  have offC : ∀ p ∈ (D, oD) :: (own ++ news), p.1 ≠ C := fun p hp => by rw [← hCe]; exact Nat.ne_of_lt (Heap.lt_size (NA p hp).1)
  have F2 : Fr h₀ L h₁ m := ⟨FA.ns.at' fun o e => hsb₁.extBut _ o (Ne.symm hCL) (Heap.get?_push_of_some _ e), fun b o e => hsb₁.extBut b o (fun z => by rw [z, hC0] at e; cases e) (Heap.get?_push_of_some _ (FA.keep b o e)), FA.above⟩
  have N2 : News h₀ L h₁ (own ++ ((C, oC) :: (D, oD) :: news)) := fun p hp => by
    have old : ∀ q ∈ (D, oD) :: (own ++ news), h₁.get? q.1 = some q.2 ∧ q.1 ≠ L ∧ h₀.get? q.1 = none := fun q hq => ⟨hsb₁.extBut _ _ (offC q hq) (Heap.get?_push_of_some _ (NA q hq).1), (NA q hq).2⟩
    rcases List.mem_append.mp hp with hp | hp
    · exact old p (.tail _ (List.mem_append_left _ hp))
    · rcases List.mem_cons.mp hp with rfl | hp
      · exact ⟨heC, hCL, hC0⟩
      · rcases List.mem_cons.mp hp with rfl | hp
        · exact old _ (.head _)
        · exact old p (.tail _ (List.mem_append_right _ hp))
  have apC : ∀ p ∈ own, C ≠ p.1 ∧ D ≠ p.1 := fun p hp => ⟨Ne.symm (offC p (.tail _ (List.mem_append_left _ hp))), Nat.ne_of_gt (lt9 p (List.mem_append_left _ hp))⟩
  have off : ∀ p ∈ news, p.1 ≠ C ∧ p.1 ≠ D := fun p hp => ⟨offC p (.tail _ (List.mem_append_right _ hp)), Nat.ne_of_lt (lt9 p (List.mem_append_right _ hp))⟩
  let Jx : Nat → (Str → Option Value) → List (Addr × Obj) → Prop := fun i m' rest => ∃ oC mC oD T k news', rest = (C, oC) :: (D, oD) :: news' ∧ NsObj oC mC ∧ oD.SetObjOf (PySem.strKind prog w) T k ∧ (∀ p ∈ news', p.1 ≠ C ∧ p.1 ≠ D) ∧ S news' ∧ J i T k m' news'
  have sx : ∀ (oC : Obj) (oD : Obj) (news' : List (Addr × Obj)), S news' → S ((C, oC) :: (D, oD) :: news') := fun oC oD news' hs => hS _ _ (fun p hp => List.mem_cons_of_mem _ (List.mem_cons_of_mem _ hp)) hs
  have loop : ∀ s₃ : Shared, s₃ = { s with heap := h₁, toks := tk + ([] : List (Str × Value)).length } →
      codeAny (model prog w) A (.compLoop (sc1 elt target iter scope pos) 0 (.ref I) (.ref D) (compEnvC scope cl C env)) (compPost (model prog w) A E none Q (.ref D) C) s₃ := by
    rintro s₃ rfl
    refine compLoop_set (FeedInv h₀ L n St S Jx s) (fun k s' inv => ?_) (n + 1) ⟨0, own, h₁, tk, m, _, rfl, st, F2, N2, apart_cd apC ap, sx _ _ _ hSn, ⟨oC, _, oD, _, 0, news, rfl, hoC, hset, off, hSn, hJ⟩, Nat.zero_le _, rfl⟩
    refine wpAny_mono (feed_step (E := fun _ _ => False) (Body := fun v s₂ => wpAny (model prog w) A (assign target (compEnvC scope cl C env) v) (fun _ s₂ => wpAny (model prog w) A (eval elt (compEnvC scope cl C env)) (fun x s₄ => wpAny (model prog w) A (call (.builtin "set.add") [.ref D, x]) (fun _ s₅ => ∃ m, m < k ∧ FeedInv h₀ L n St S Jx s m s₅) (fun _ _ => False) s₄) (fun _ _ => False) s₂) (fun _ _ => False) s₂)
        (Qn := fun s₁ => compPost (model prog w) A E none Q (.ref D) C (.ok .next) s₁) Fd inv ?_ ?_) (fun r s₁ h₁ => ?_) fun _ _ e => e
    · rintro i v own' ex m₂ rest h₂ tk₂ hi it ⟨oC', mC', oD', T, k', news', rfl, hoC', hset', off', hS', hJ'⟩ _ ap₂ F₂ N₂ fe
      have apC' : ∀ p ∈ own', C ≠ p.1 ∧ D ≠ p.1 := fun p hp => ⟨ap₂ p hp (C, oC') (List.mem_append_right _ (.head _)), ap₂ p hp (D, oD') (List.mem_append_right _ (.tail _ (.head _)))⟩
      refine wpAny_mono (turn C D i v own' ex T k' oD' oC' mC' m₂ news' h₂ tk₂ hi it hoC' hset' hJ' hS' ap₂ off' hCD F₂ N₂) (fun _ s₃ h₃ => wpAny_mono h₃ (fun x s₄ h₄ => ?_) fun _ _ e => e) fun _ _ e => e
      obtain ⟨h₅, tk₅, m₅, oC₅, mC₅, news₅, xs, t, rfl, rfl, F₅, N₅, hoC₅, ap₅, off₅, hS₅, hJ₅⟩ := h₄
      have N₆ : News h₀ L h₅ ((D, oD') :: (own' ++ ((C, oC₅) :: news₅))) := newsSub N₅ fun p hp => by
        simp only [List.mem_append, List.mem_cons] at hp ⊢
        rcases hp with hp | hp | hp | hp <;> simp [hp]
      have offD : ∀ p ∈ own' ++ ((C, oC₅) :: news₅), p.1 ≠ D := fun p hp => by
        rcases List.mem_append.mp hp with hp | hp
        · exact Ne.symm (apC' p hp).2
        · rcases List.mem_cons.mp hp with rfl | hp
          · exact hCD
          · exact (off₅ p hp).2
      have hk := hJn _ _ _ _ _ hJ'
      refine kse_add (s := { s with heap := h₅, toks := tk₅ }) F₅ N₆ (UpdF.head offD) hset' (by unfold scanBound; omega) (strKind_is prog w xs t) (by rfl) fun h₇ so F₇ N₇ hset₇ => ?_
      refine fe _ ⟨h₇, _, m₅, (C, oC₅) :: (D, so) :: news₅, rfl, F₇, newsSub N₇ fun p hp => ?_, apart_cd apC' ap₅, sx _ _ _ hS₅, ⟨oC₅, mC₅, so, _, _, news₅, rfl, hoC₅, hset₇, off₅, hS₅, hJ₅⟩⟩
      simp only [List.mem_append, List.mem_cons] at hp ⊢
      rcases hp with hp | hp | hp | hp <;> simp [hp]
    · rintro m₁ rest h₂ tk₂ ⟨oC', mC', oD', T, k', news', rfl, hoC', hset', off', hS', hJ'⟩ F₁ N₁
      refine ⟨mC', hoC'.ns (N₁ _ (.head _)).1, fun h₃ hs₃ => ?_⟩
      obtain ⟨F₃, N₃⟩ := ns_after F₁ (newsSub N₁ (b := (D, oD') :: news') fun p hp => .tail _ hp) hs₃ hCL hC0 fun p hp => by
        rcases List.mem_cons.mp hp with rfl | hp
        · exact Ne.symm hCD
        · exact (off' p hp).1
      exact fin D oD' T k' m₁ news' h₃ tk₂ hJ' hset' hS' (fun p hp => (off' p hp).2) F₃ N₃
    · cases r with
      | none => exact h₁
      | some v => exact h₁
  exact compStart_set (loop _ rfl) (Fd.self 0 own _ _ _ st (newsSub N2 fun p hp => List.mem_append_left _ hp) (loop _ rfl))
end
theorem range_small {n : Nat} (h : n ≤ 1000) : Builtin.Range.small 0 (n : Int) 1 = true := by
  have e : Builtin.Range.rangeSize 0 (n : Int) 1 = (n : Int) := by rw [rangeSize_nat]; omega
  unfold Builtin.Range.small
  rw [e]
  simp [Builtin.Range.rangeFitsLong]
  omega
theorem rangeFeedFor {prog : Program} {w : World} {A : Around} {h₀ : Heap} {L : Addr} {E : Value → Shared → Prop} {s s₀ : Shared} {r : Addr} {n : Nat} {t u v : Tok} {x : Str} {px : Pos} {m : Str → Option Value} {news : List (Addr × Obj)} {S : List (Addr × Obj) → Prop} {J : (Str → Option Value) → List (Addr × Obj) → Prop} (hh : A.handled = none) (hs : ∃ h tk, s = { s₀ with heap := h, toks := tk }) (F : Fr h₀ L s.heap m) (N : News h₀ L s.heap news) (hr : PySem.IsRange s.heap r 0 (n : Int) 1 t u v) (hsm : Builtin.Range.small 0 (n : Int) 1 = true) (hJ : J m news) (hS : S news) :
    wpAny (model prog w) A (pyIter (.ref r)) (FeedAt prog w A h₀ L (.Name x px) n (fun i v ex => (∃ u, v = .int (i : Int) u) ∧ ex = []) S J s₀) E s :=
  wpAny_mono (rangeFeedAt (x := x) (px := px) (J := fun m' l => m' = m ∧ l = news) hh hs F N hr hsm ⟨rfl, rfl⟩) (fun it s₁ hA => FeedAt.weaken hA (fun _ _ => trivial) fun m' l hj => by
    obtain ⟨rfl, rfl⟩ := hj
    exact ⟨hJ, hS⟩) fun _ _ e => e
section
variable {prog : Program} {w : World} {A : Around} {E : Value → Shared → Prop} {s : Shared} {h₀ : Heap} {L D : Addr} {oD : Obj} {news : List (Addr × Obj)} {T : Str → Bool} {n : Nat} {Q : Value → Shared → Prop}
theorem set_inM {x : Str} {t : Tok} (N : News h₀ L s.heap news) (hm : (D, oD) ∈ news) (hso : oD.SetObjOf (PySem.strKind prog w) T n) (hb : n ≤ 1000) (h : Q (.bool (T x)) { s with toks := s.toks + 1 }) : wpAny (model prog w) A (compareOp .In (.str x t) (.ref D)) Q E s :=
  kse_in (newsSub N (b := [(D, oD)]) fun p hp => by rw [List.mem_singleton.mp hp]; exact hm) (UpdF.head (List.forall_mem_nil _)) hso (by unfold scanBound; omega) (strKind_is prog w x t) (by rfl) h
theorem set_lenM (N : News h₀ L s.heap news) (hm : (D, oD) ∈ news) (hso : oD.SetObjOf (PySem.strKind prog w) T n) (hb : n ≤ 1000) (h : Q (.int n (s.toks + 1)) { s with toks := s.toks + 1 + 1 }) : wpAny (model prog w) A (call (.builtin "len") [.ref D]) Q E s :=
  kse_len (newsSub N (b := [(D, oD)]) fun p hp => by rw [List.mem_singleton.mp hp]; exact hm) (UpdF.head (List.forall_mem_nil _)) hso (by omega) h
end
theorem kw55 : True := by
  k_with "compareOp In str ref" => (k_here; (with_reducible show wpAny _ _ (compareOp CmpOp.In (Value.str _ _) (Value.ref _)) _ _ _); k_dflt (refine set_inM (by k_asm) (by k_mem) (by assumption) (by assumption) ?_); (try dsimp only))
  exact True.intro

/-- the turns of a word, plain -/
def turnsB (k : List Nat) : List (List Nat) := (List.range k.length).map fun i => k.drop i ++ k.take i
def dstep (p : List (List Nat) × Nat) (x : List Nat) : List (List Nat) × Nat := (p.1 ++ [x], if p.1.contains x then p.2 else p.2 + 1)
def dst (l : List (List Nat)) : List (List Nat) × Nat := l.foldl dstep ([], 0)
def dcnt (l : List (List Nat)) : Nat := (dst l).2
def dueB (k : List Nat) : Nat := if dcnt (turnsB k) = k.length then 1 else 0
def ringB (words picks : List PRow) : Bool := words.all fun q => (picks.filter fun p => (turnsB q.1).contains p.1).length == dueB q.1
theorem dst_snoc {l : List (List Nat)} {x : List Nat} : dst (l ++ [x]) = dstep (dst l) x := by unfold dst; rw [List.foldl_append]; rfl
theorem dst_fst0 : ∀ (l : List (List Nat)) (p : List (List Nat) × Nat), (l.foldl dstep p).1 = p.1 ++ l
  | [], p => by simp
  | x :: l, p => by rw [List.foldl_cons, dst_fst0 l]; simp [dstep]
theorem dst_fst {l : List (List Nat)} : (dst l).1 = l := by unfold dst; rw [dst_fst0]; rfl
theorem dcnt_snoc {l : List (List Nat)} {x : List Nat} : dcnt (l ++ [x]) = if l.contains x then dcnt l else dcnt l + 1 := by
  unfold dcnt
  rw [dst_snoc]
  show (if (dst l).1.contains x then _ else _) = _
  rw [dst_fst]
/-- the set of texts -/
def Tset (l : List (List Nat)) : Str → Bool := fun y => l.any fun z => decide (y = st z)
theorem Tset_snoc {l : List (List Nat)} {x : List Nat} : Tset (l ++ [x]) = fun y => Tset l y || decide (y = st x) := by
  funext y
  unfold Tset
  rw [List.any_append]
  simp
theorem Tset_st {l : List (List Nat)} {x : List Nat} : Tset l (st x) = l.contains x := by
  unfold Tset
  rw [List.contains_eq_any_beq]
  congr 1
  funext z
  by_cases h : x = z
  · subst h; simp
  · have : st x ≠ st z := fun e => h (st_inj.mp e)
    simp [this, h]
theorem turns_len {k : List Nat} : (turnsB k).length = k.length := by simp [turnsB]
theorem turns_at {k : List Nat} {i : Nat} (h : i < k.length) : (turnsB k)[i]? = some (k.drop i ++ k.take i) := by simp [turnsB, h]
/-- the ring loop's state: the two cells ahead of what was there -/
def JRing (nIn : List (Addr × Obj)) (a b : Addr) (pl : Addr) (m' : Str → Option Value) (news' : List (Addr × Obj)) : Prop :=
  ∃ (o1 o2 : Obj) (c1 c2 : Option Value), m' (Str.ofString "picks") = some (.ref pl) ∧ news' = (a, o1) :: (b, o2) :: nIn ∧ o1.data = .cell c1 ∧ o2.data = .cell c2
theorem objOfD {o : Obj} {d : Data} (_ : o.data = d) : ∃ o', o' = o := ⟨_, rfl⟩
theorem slice_drop {k : List Nat} {i : Nat} (h : i ≤ k.length) : Txt.slice (st k) (some (i : Int)) none = st (k.drop i) := by
  show PySem.StrLaws.sliceText (st k) (some (i : Int)) none = _
  have e : PySem.StrLaws.sliceText (st k) (some (i : Int)) none = PySem.StrLaws.sliceText (st k) (some (i : Int)) (some ((st k).length : Int)) := by
    unfold PySem.StrLaws.sliceText
    rw [PySem.StrLaws.sliceIdx_none_hi]
  rw [e, PySem.StrLaws.sliceText_nat (st k) (by rw [st_len]; exact h) (Nat.le_refl _), st_len]
  show Str.mk _ = Str.mk _
  congr 1
  show ((k.toArray.toList.drop i).take _).toArray = _
  rw [List.take_of_length_le (by simp)]
theorem slice_take {k : List Nat} {i : Nat} (h : i ≤ k.length) : Txt.slice (st k) none (some (i : Int)) = st (k.take i) := by
  show PySem.StrLaws.sliceText (st k) none (some (i : Int)) = _
  have e : PySem.StrLaws.sliceText (st k) none (some (i : Int)) = PySem.StrLaws.sliceText (st k) (some ((0 : Nat) : Int)) (some (i : Int)) := by
    unfold PySem.StrLaws.sliceText
    rw [PySem.StrLaws.sliceIdx_none_lo]
    rfl
  rw [e, PySem.StrLaws.sliceText_nat (st k) (Nat.zero_le _) (by rw [st_len]; exact h)]
  rfl
abbrev PickRow.name (r : PickRow) : Value := .str (st r.k) r.tk
theorem filter_take_name {rows : List PickRow} {p : PickRow → Bool} {i : Nat} {r : PickRow} (hr : rows[i]? = some r) : ((rows.take (i + 1)).filter p).map PickRow.name = ((rows.take i).filter p).map PickRow.name ++ (if p r = true then [r.name] else []) := by
  rw [List.take_add_one, hr, List.filter_append, List.map_append]
  congr 1
  simp only [Option.toList_some, List.filter_cons, List.filter_nil]
  split <;> rfl
/-- the picks among the turns: strP -/
def inTurns (k : List Nat) (r : PickRow) : Bool := (turnsB k).contains r.k
theorem ring_at {ws picks : List PickRow} {r : PickRow} (h : ringB (ws.map PickRow.plain) (picks.map PickRow.plain) = true) (hr : r ∈ ws) : (picks.filter (inTurns r.k)).length = dueB r.k := by
  unfold ringB at h
  rw [List.all_eq_true] at h
  have h1 := h r.plain (List.mem_map_of_mem (f := PickRow.plain) hr)
  rw [beq_iff_eq, List.filter_map, List.length_map] at h1
  exact h1
def IfEnd (P : Value → Prop) (s : Shared) (v : Value) (s' : Shared) : Prop := P v ∧ ∃ k, s' = { s with toks := k }
theorem ifExpTo {prog : Program} {w : World} {A : Around} {E : Value → Shared → Prop} {s : Shared} {env : Env} {t a b : Expr} {pos : Pos} {Q : Value → Shared → Prop} {P : Value → Prop} (h1 : wpAny (model prog w) A (eval (.IfExp t a b pos) env) (fun v s' => IfEnd P s v s') E s) (h2 : ∀ v k, P v → Q v { s with toks := k }) : wpAny (model prog w) A (eval (.IfExp t a b pos) env) Q E s :=
  wpAny_mono h1 (fun v s' ⟨hp, k, e⟩ => by subst e; exact h2 v k hp) fun _ _ e => e
theorem kw56 : True := by
  k_with "eval IfExp" => (k_here; with_reducible refine halt ?_)
  exact True.intro

theorem ring_con {w p loose mean mg mb} {nIn : List (Addr × Obj)} {wl pl : Addr} {nw np : Nat} {ws picks : List PickRow} (hw : PickTab wl nw ws nIn) (hp : PickTab pl np picks nIn) (hring : ringB (ws.map PickRow.plain) (picks.map PickRow.plain) = true)
    (hwl : ws.length ≤ 900) (hpl : picks.length ≤ 900) (hwk : ∀ r ∈ ws, r.k.length ≤ 100) :
    ConD w p loose mean mg mb 12 120 297 [.ref wl, .ref pl] [] nIn (fun r nOut => r = .bool true ∧ ∀ p ∈ nIn, p ∈ nOut) := by
  unfold ConD
  intro dp un gd cn cs a0 ccd cl outer A₀ base h₀ L m s Q E B F X N T hk hd hu hret
  refine wpAny_call ?_
  k_dflt (refine' code_defC ?k1 ?k2 ?k3 ?k4 ?k5 ?kA ?kF ?kK ?k6 ?k7 ?k8 ?k9 ?kB ?kD ?_ ?c2 ?c3 ?c4; (case kA => exact rfl); (case kF => exact rfl); (case kK => assumption); (case k1 => k_asm); (case k2 => k_asm); (case k3 => k_asm); (case k4 => k_asm); (case k5 => k_asm); (case k6 => k_is); (case k7 => k_is); (case k8 => ktr_room); (case k9 => first | exact BindsTo.of_eq rfl | exact binds_K (by k_in) rfl (by k_is) rfl rfl rfl | fail "k_enter: no rule for these arguments"); (case kB => exact rfl); (case kD => decide +kernel); (case c2 => exact rfl); (case c3 => exact rfl); (case c4 => exact rfl); k_whole; intro g' L' h' tk' cells' FG' F' N' Y' B' X' T' l1; k_cells Y'; (try simp only [List.cons_append, List.nil_append] at N'); (try dsimp only); (try k_lift B'); (try k_fold))
  clear B F N X T
  k_steps
  refine Halt.mk ?_
  rename News _ _ _ _ => N1
  rename Fr _ _ _ _ => F1
  refine' for_feedD (n := (ws.map PickRow.ref).toArray.size) (Item := fun i v ex => (ws.map PickRow.ref).toArray[i]? = some v ∧ ex = []) (S := fun news => (wl, W.listOf (ws.map PickRow.ref).toArray nw) ∈ news) F1 (fun i => JRing nIn (L' + 1 + 1) (L' + 1) pl) ?he ?turn ?fin
  case he =>
    have hwm := hw.list
    k_steps
    refine Halt.mk ?_
    exact listFeedAt rfl ⟨_, _, rfl⟩ (by k_asm) N1 (.tail _ (.tail _ hw.list)) ⟨_, _, _, _, rfl, rfl, by assumption, by assumption⟩
  case turn =>
    intro i v own ex m₁ news₁ h5 tk5 dr5 hi it hJ hS ap F₁ N₁
    obtain ⟨o1, o2, c1, c2, hmp, rfl, ho1, ho2⟩ := hJ
    obtain ⟨hv, rfl⟩ := it
    rw [List.getElem?_toArray, List.getElem?_map] at hv
    obtain ⟨r1, hr1, rfl⟩ := Option.map_eq_some_iff.mp hv
    have hr1m := List.mem_of_getElem? hr1
    have F₂ := frKnowL [(Str.ofString "picks", .ref pl)] F₁ (by simpa using hmp)
    clear F₁ N1 F1
    have N₂ : News _ _ h5 ((L' + 1 + 1, o1) :: (L' + 1, o2) :: (own ++ nIn)) := newsSub N₁ fun p hp => by
      simp only [List.mem_cons, List.mem_append, List.nil_append] at hp ⊢
      rcases hp with hp | hp | hp | hp <;> simp [hp]
    clear N₁
    have ap3 : Apart own ((L' + 1 + 1, o1) :: (L' + 1, o2) :: nIn) := ap
    have offW : ∀ p ∈ own ++ nIn, p.1 ≠ L' + 1 := by
      intro p hp
      rcases List.mem_append.mp hp with hp | hp
      · exact Ne.symm (ap3 p hp (L' + 1, o2) (.tail _ (.head _)))
      · exact Nat.ne_of_lt (Nat.lt_succ_of_lt (l1 p hp))
    have offT : ∀ p ∈ own ++ nIn, p.1 ≠ L' + 1 + 1 := by
      intro p hp
      rcases List.mem_append.mp hp with hp | hp
      · exact Ne.symm (ap3 p hp (L' + 1 + 1, o1) (.head _))
      · exact Nat.ne_of_lt (Nat.lt_succ_of_lt (Nat.lt_succ_of_lt (l1 p hp)))
    have hro : (r1.a, r1.obj) ∈ own ++ nIn := List.mem_append_right _ (hw.objs r1 hr1m)
    dsimp only [PickRow.ref]
    k_steps
    rename News _ _ _ _ => N3
    rename Fr _ _ _ _ => F3
    rename Obj.data _ = Data.cell (some _) => hcw
    obtain ⟨oW, eW⟩ := objOfD hcw
    subst eW
    obtain ⟨Bs2, hBs2, hB1, hBW, N4⟩ : ∃ Bs2, (∀ p ∈ own ++ nIn, p ∈ Bs2) ∧ (L' + 1 + 1, o1) ∈ Bs2 ∧ (L' + 1, oW) ∈ Bs2 ∧ News _ _ _ Bs2 := ⟨_, fun p hp => List.mem_cons_of_mem _ (List.mem_cons_of_mem _ hp), List.mem_cons_self, List.mem_cons_of_mem _ List.mem_cons_self, N3⟩
    have hkl := hwk r1 hr1m
    have hk200 : r1.k.length ≤ 200 := Nat.le_trans hkl (by decide)
    have hsl0 : (st r1.k).length ≤ 1000 := by rw [st_len]; omega
    refine' scomp_feed (cl := [(Str.ofString "word", L' + 1)]) (n := r1.k.length) (Item := fun i v ex => (∃ u, v = .int (i : Int) u) ∧ ex = []) (S := fun news => ∀ p ∈ Bs2, p ∈ news) F3 (fun i T k m' news' => m' (Str.ofString "picks") = some (.ref pl) ∧ T = Tset ((turnsB r1.k).take i) ∧ k = dcnt ((turnsB r1.k).take i) ∧ k ≤ i ∧ i ≤ 200) (fun a b hab ha p hp => hab p (ha p hp)) ?hJn ?hclos ?hcell ?hkind ?hnames ?he6 ?turn6 ?fin6
    case hJn =>
      rintro i T k m' news' ⟨_, _, _, h1, h2⟩
      omega
    case hclos => with_unfolding_all rfl
    case hcell => decide
    case hkind => rfl
    case hnames => decide
    case he6 =>
      k_steps
      refine Halt.mk ?_
      rename PySem.IsRange _ _ _ _ _ _ _ _ => hR
      rw [st_len] at hR
      exact rangeFeedFor rfl ⟨_, _, rfl⟩ (by k_asm) (by k_asm) hR (range_small (by omega)) ⟨rfl, rfl, rfl, Nat.le_refl _, Nat.zero_le _⟩ fun p hp => hp
    case turn6 =>
      intro C D i v own9 ex T k oD oC mC m₁ news₁ h tk hi it hoC hset hJ hS ap9 off hCD F₁ N₁
      obtain ⟨hmp9, rfl, rfl, hki, hi200⟩ := hJ
      obtain ⟨⟨u, rfl⟩, rfl⟩ := it
      obtain ⟨Z, hZ⟩ : ∃ Z, Z = own9 ++ ((D, oD) :: news₁) := ⟨_, rfl⟩
      have hcn : (L' + 1, oW) ∈ news₁ := hS _ hBW
      have N₂ : News _ _ h ((C, oC) :: (L' + 1, oW) :: Z) := newsSub N₁ fun p hp => by
        subst hZ
        simp only [List.nil_append, List.mem_cons, List.mem_append] at hp ⊢
        rcases hp with rfl | rfl | hp | rfl | hp <;> first | (simp only [hp, hcn, eq_self, true_or, or_true]; done) | (simp only [hcn, eq_self, true_or, or_true]; done) | simp_all
      have off9 : ∀ p ∈ (L' + 1, oW) :: Z, p.1 ≠ C := by
        intro p hp
        subst hZ
        rcases List.mem_cons.mp hp with rfl | hp
        · exact (off _ hcn).1
        · rcases List.mem_append.mp hp with hp | hp
          · exact Ne.symm (ap9 p hp (C, oC) (.head _))
          · rcases List.mem_cons.mp hp with rfl | hp
            · exact Ne.symm hCD
            · exact (off p hp).1
      clear N3 F3 N4
      k_steps
      rename News _ _ _ _ => N9
      rename Fr _ _ _ _ => F9
      rename (PyProof.Rows.LCg.NsObj _ _) => hC9
      obtain ⟨oC3, e3⟩ := objOf hC9
      subst e3
      rw [slice_drop (Nat.le_of_lt hi), slice_take (Nat.le_of_lt hi), st_app]
      have htk : (turnsB r1.k).take (i + 1) = (turnsB r1.k).take i ++ [r1.k.drop i ++ r1.k.take i] := by
        rw [List.take_add_one, turns_at hi]
        rfl
      subst hZ
      refine STurn.intro (news' := news₁) F9 N9 ?_ hC9 (fun p hp q hq => ap9 p hp q (.tail _ (.tail _ hq))) off hS ⟨hmp9, by rw [htk, Tset_snoc], by rw [htk, dcnt_snoc, Tset_st], by split <;> omega, by omega⟩
      intro p hp
      simp only [List.mem_cons, List.mem_append] at hp ⊢
      rcases hp with hp | hp | hp | hp <;> simp [hp]
    case fin6 =>
      intro D oD T k m₁ news₁ h tk hJ hset hS off F₁ N₁
      obtain ⟨hmp9, rfl, rfl, hki, hi200⟩ := hJ
      rw [List.take_of_length_le (by rw [turns_len]; exact Nat.le_refl _)] at hset
      have hDT : D ≠ L' + 1 + 1 := Ne.symm (off _ (hS _ hB1))
      have N₂ : News _ _ h ((D, oD) :: (L' + 1 + 1, o1) :: (L' + 1, oW) :: (own ++ nIn)) := newsSub N₁ fun p hp => by
        rcases List.mem_cons.mp hp with rfl | hp
        · exact .head _
        · rcases List.mem_cons.mp hp with rfl | hp
          · exact .tail _ (hS _ hB1)
          · rcases List.mem_cons.mp hp with rfl | hp
            · exact .tail _ (hS _ hBW)
            · exact .tail _ (hS _ (hBs2 p hp))
      have offD : ∀ p ∈ (L' + 1 + 1, o1) :: (L' + 1, oW) :: (own ++ nIn), p.1 ≠ D := by
        intro p hp
        rcases List.mem_cons.mp hp with rfl | hp
        · exact Ne.symm hDT
        · rcases List.mem_cons.mp hp with rfl | hp
          · exact off _ (hS _ hBW)
          · exact off p (hS _ (hBs2 p hp))
      have F₂ := frKnowL [(Str.ofString "picks", .ref pl)] F₁ (by simpa using hmp9)
      clear F₁ N₁ N3 F3 N4
      dsimp only
      k_steps
      have hdk : dcnt (turnsB r1.k) ≤ 1000 := by
        have h0 := hki
        rw [List.take_of_length_le (by rw [turns_len]; exact Nat.le_refl _)] at h0
        omega
      refine Halt.mk ?_
      refine ifExpTo (P := fun v => ∃ t, v = .int ((dueB r1.k : Nat) : Int) t) ?hif ?hgo
      case hif =>
        refine wpAny_IfExp ?_
        k_steps
        · rename (_ = (_ : Int)) => hq
          have hdue : dueB r1.k = 1 := by
            unfold dueB
            rw [st_len] at hq
            rw [if_pos (by exact_mod_cast hq)]
          exact ⟨⟨_, by rw [hdue]; rfl⟩, _, rfl⟩
        · rename (¬ (_ = (_ : Int))) => hq
          have hdue : dueB r1.k = 0 := by
            unfold dueB
            rw [st_len] at hq
            rw [if_neg (fun h => hq (by exact_mod_cast h))]
          exact ⟨⟨_, by rw [hdue]; rfl⟩, _, rfl⟩
      case hgo =>
        rintro v9 k9 ⟨t9, rfl⟩
        dsimp only
        k_steps
        refine Halt.mk ?_
        rename News _ _ _ _ => N6
        rename Fr _ _ _ _ => F6
        rename Obj.data _ = Data.cell (some (Value.ref D)) => hct
        obtain ⟨oT, eT⟩ := objOfD hct
        subst eT
        obtain ⟨m6, hm6p, ⟨td, hm6d⟩, F7⟩ : ∃ m6 : Str → Option Value, m6 (Str.ofString "picks") = some (.ref pl) ∧ (∃ t, m6 (Str.ofString "due") = some (.int ((dueB r1.k : Nat) : Int) t)) ∧ Fr _ _ _ m6 := ⟨_, rfl, ⟨_, rfl⟩, F6⟩
        have F8 := frKnowL [(Str.ofString "picks", .ref pl), (Str.ofString "due", .int ((dueB r1.k : Nat) : Int) td)] F7 (by simpa using ⟨hm6p, hm6d⟩)
        clear F6 F7
        obtain ⟨Bs3, hBs3, hBT, hBD, hBW3, N7⟩ : ∃ Bs3, (∀ p ∈ own ++ nIn, p ∈ Bs3) ∧ (L' + 1 + 1, oT) ∈ Bs3 ∧ (D, oD) ∈ Bs3 ∧ (L' + 1, oW) ∈ Bs3 ∧ News _ _ _ Bs3 := ⟨_, fun p hp => List.mem_cons_of_mem _ (List.mem_cons_of_mem _ (List.mem_cons_of_mem _ hp)), List.mem_cons_of_mem _ List.mem_cons_self, List.mem_cons_self, List.mem_cons_of_mem _ (List.mem_cons_of_mem _ List.mem_cons_self), N6⟩
        have hpB : (pl, W.listOf (picks.map PickRow.ref).toArray np) ∈ Bs3 := hBs3 _ (List.mem_append_right _ hp.list)
        clear N6
        refine' comp_feed (cl := [(Str.ofString "turns", L' + 1 + 1)]) (S := fun news => ∀ p ∈ Bs3, p ∈ news) (n := (picks.map PickRow.ref).toArray.size) (Item := fun i v ex => (picks.map PickRow.ref).toArray[i]? = some v ∧ ex = []) F8 (fun i acc m' news' => (m' (Str.ofString "picks") = some (.ref pl) ∧ m' (Str.ofString "due") = some (.int ((dueB r1.k : Nat) : Int) td)) ∧ acc = ((picks.take i).filter (inTurns r1.k)).map PickRow.name ∧ ∀ p ∈ Bs3, p ∈ news') (fun a b hab ha p hp => hab p (ha p hp)) ?hsz ?hJn ?hclos ?hcell ?hkind ?hnames ?he7 ?turn7 ?fin7
        case hsz => rw [sizeLine_eq]; simp; omega
        case hJn =>
          rintro i acc m' news' ⟨_, rfl, _⟩
          rw [List.length_map]
          exact Nat.le_trans (List.length_filter_le _ _) (by rw [List.length_take]; exact Nat.min_le_left _ _)
        case hclos => with_unfolding_all rfl
        case hcell => decide
        case hkind => rfl
        case hnames => decide
        case he7 =>
          k_steps
          refine Halt.mk ?_
          refine wpAny_mono (listFeedAt (J := fun m' news' => (m' (Str.ofString "picks") = some (.ref pl) ∧ m' (Str.ofString "due") = some (.int ((dueB r1.k : Nat) : Int) td)) ∧ news' = Bs3) rfl ⟨_, _, rfl⟩ (by k_asm) N7 hpB ⟨⟨rfl, rfl⟩, rfl⟩) (fun it s₁ hA => FeedAt.weaken hA (fun l hl => hl _ hpB) fun m' l hj => ⟨⟨hj.1, rfl, fun p hp => hj.2 ▸ hp⟩, fun p hp => hj.2 ▸ hp⟩) fun _ _ e => e
        case turn7 =>
          intro C D9 i v own9 ex acc nD oC mC m₁ news₁ h tk hi it hoC hJ hS9 ap9 off9 hCD F₁ N₁
          obtain ⟨hmm, rfl, hBs⟩ := hJ
          obtain ⟨hv9, rfl⟩ := it
          rw [List.getElem?_toArray, List.getElem?_map] at hv9
          obtain ⟨r2, hr2, rfl⟩ := Option.map_eq_some_iff.mp hv9
          have hr2m := List.mem_of_getElem? hr2
          obtain ⟨Z, hZ⟩ : ∃ Z, Z = own9 ++ ((D9, W.listOf (((picks.take i).filter (inTurns r1.k)).map PickRow.name).toArray nD) :: news₁) := ⟨_, rfl⟩
          have hro2 : (r2.a, r2.obj) ∈ news₁ := hS9 _ (hBs3 _ (List.mem_append_right _ (hp.objs r2 hr2m)))
          have hTn : (L' + 1 + 1, oT) ∈ news₁ := hS9 _ hBT
          have hDn : (D, oD) ∈ news₁ := hS9 _ hBD
          have N₂ : News _ _ h ((C, oC) :: (r2.a, r2.obj) :: (L' + 1 + 1, oT) :: (D, oD) :: Z) := newsSub N₁ fun p hp => by
            subst hZ
            simp only [List.nil_append, List.mem_cons, List.mem_append] at hp ⊢
            rcases hp with rfl | rfl | rfl | rfl | hp | rfl | hp <;> first | (simp only [hp, hro2, hTn, hDn, eq_self, true_or, or_true]; done) | (simp only [hro2, hTn, hDn, eq_self, true_or, or_true]; done) | simp_all
          have off8 : ∀ p ∈ (r2.a, r2.obj) :: (L' + 1 + 1, oT) :: (D, oD) :: Z, p.1 ≠ C := by
            intro p hp
            subst hZ
            rcases List.mem_cons.mp hp with rfl | hp
            · exact (off9 _ hro2).1
            · rcases List.mem_cons.mp hp with rfl | hp
              · exact (off9 _ hTn).1
              · rcases List.mem_cons.mp hp with rfl | hp
                · exact (off9 _ hDn).1
                · rcases List.mem_append.mp hp with hp | hp
                  · exact Ne.symm (ap9 p hp (C, oC) (.head _))
                  · rcases List.mem_cons.mp hp with rfl | hp
                    · exact Ne.symm hCD
                    · exact (off9 p hp).1
          clear N₁ N7 F8
          dsimp only [PickRow.ref]
          k_steps
          · rename (Tset _ _ = true) => hT
            rw [Tset_st] at hT
            have hT2 : inTurns r1.k r2 = true := hT
            rename News _ _ _ _ => N9
            subst hZ
            refine CompTurn.intro (news' := news₁) (by k_asm) N9 (fun p hp => by simp [hp]) (.head _) (by assumption) (by simp) (fun p hp => by simp [hp]) (fun p hp q hq => ap9 p hp q (.tail _ (.tail _ hq))) off9 hS9 ⟨hmm, ?_, hBs⟩
            rw [filter_take_name hr2, if_pos hT2]
            rfl
          · rename (Tset _ _ = false) => hT
            rw [Tset_st] at hT
            have hT2 : inTurns r1.k r2 = false := hT
            rename News _ _ _ _ => N9
            subst hZ
            refine CompTurn.intro (news' := news₁) (by k_asm) N9 (fun p hp => by simp [hp]) (.head _) (by assumption) (by simp) (fun p hp => by simp [hp]) (fun p hp q hq => ap9 p hp q (.tail _ (.tail _ hq))) off9 hS9 ⟨hmm, ?_, hBs⟩
            rw [filter_take_name hr2, hT2]
            simp
        case fin7 =>
          intro D9 acc nD m₁ news₁ h tk hJ off9 F₁ N₁
          obtain ⟨hmm, rfl, hBs⟩ := hJ
          rw [List.take_of_length_le (by simp)] at N₁
          have hrg := ring_at hring hr1m
          have F₂ := frKnowL [(Str.ofString "picks", .ref pl), (Str.ofString "due", .int ((dueB r1.k : Nat) : Int) td)] F₁ (by simpa using hmm)
          have N₂ : News _ _ h ((D9, W.listOf ((picks.filter (inTurns r1.k)).map PickRow.name).toArray nD) :: (L' + 1 + 1, oT) :: (L' + 1, oW) :: (own ++ nIn)) := newsSub N₁ fun p hp => by
            rcases List.mem_cons.mp hp with rfl | hp
            · exact .head _
            · rcases List.mem_cons.mp hp with rfl | hp
              · exact .tail _ (hBs _ hBT)
              · rcases List.mem_cons.mp hp with rfl | hp
                · exact .tail _ (hBs _ hBW3)
                · exact .tail _ (hBs _ (hBs3 p hp))
          have hszl : ((picks.filter (inTurns r1.k)).map PickRow.name).toArray.size ≤ sizeLine := by
            rw [sizeLine_eq, List.size_toArray, List.length_map]
            exact Nat.le_trans (List.length_filter_le _ _) (by omega)
          clear N₁ F₁ N7 F8
          dsimp only
          k_steps
          · rename (_ ≠ (_ : Int)) => hne
            refine absurd ?_ hne
            rw [List.size_toArray, List.length_map, hrg]
          · rename Fr _ _ _ _ => F9
            rename News _ _ _ _ => N9
            show FeedEndD _ _ _ _ _ _ _
            refine FeedEndD.intro (news' := (L' + 1 + 1, oT) :: (L' + 1, oW) :: nIn) F9 N9 (fun p hp => .tail _ (.tail _ (.tail _ (List.mem_append_left _ hp)))) (fun p hp => ?_) (fun p hp q hq => ?_) (.tail _ (.tail _ hw.list)) ⟨oT, oW, _, _, rfl, rfl, hct, hcw⟩
            · rcases List.mem_cons.mp hp with rfl | hp
              · exact .tail _ (.head _)
              · rcases List.mem_cons.mp hp with rfl | hp
                · exact .tail _ (.tail _ (.head _))
                · exact .tail _ (.tail _ (.tail _ (List.mem_append_right _ hp)))
            · rcases List.mem_cons.mp hq with rfl | hq
              · exact ap3 p hp (L' + 1 + 1, o1) (.head _)
              · rcases List.mem_cons.mp hq with rfl | hq
                · exact ap3 p hp (L' + 1, o2) (.tail _ (.head _))
                · exact ap3 p hp q (.tail _ (.tail _ hq))
  case fin =>
    intro m₁ news₁ h5 tk5 dr5 hJ F₁ N₁
    obtain ⟨o1, o2, c1, c2, hmp, rfl, ho1, ho2⟩ := hJ
    clear N1 F1
    dsimp only
    k_steps
    dsimp only
    rename News _ _ _ _ => N9
    rename Fr _ _ _ _ => F9
    refine leaveK_ F9 N9 fun kF kN => ?_
    exact hret _ _ _ _ _ ⟨rfl, fun p hp => .tail _ (.tail _ hp)⟩ kF kN

/-- what a sign costs, plain -/
def costB (a b : Nat) : Nat := if a = b then 0 else if low a = low b then 1 else 2
def partsB (k row : List Nat) : Nat := ((k.zip row).map fun q => costB q.1 q.2).sum
def findK (rows : List (List Nat)) (k : List Nat) : Option (List Nat) := rows.find? fun r => r.map low == k.map low
def evenB (rows : List (List Nat)) : List PRow → Int → Option Int
  | [], t => some t
  | q :: r, t => match findK rows q.1 with
    | some row => evenB rows r (t + (-1) ^ partsB q.1 row * (q.2 : Int) ^ 8)
    | none => none
theorem sub_con {w p loose mean mg mb} {nIn : List (Addr × Obj)} {x y : Nat} {t u : Tok} (hx : isLet x = true) (hy : isLet y = true) :
    Con w p loose mean mg mb 3 24 123 [.str (st [x]) t, .str (st [y]) u] [] nIn (fun r nOut => (∃ t, r = .int ((costB x y : Nat) : Int) t) ∧ nOut = nIn) := by
  unfold Con
  intro dp un gd cn cs a ccd cl outer A₀ base h₀ L m s Q E B F X N T hk hd hu hret
  refine wpAny_call ?_
  have hxl : ∀ c ∈ [x], isLet c = true := by intro c hc; rw [List.mem_singleton.mp hc]; exact hx
  have hyl : ∀ c ∈ [y], isLet c = true := by intro c hc; rw [List.mem_singleton.mp hc]; exact hy
  have hlx : (st [x]).length ≤ 1000 := by rw [st_len]; exact Nat.le_of_ble_eq_true rfl
  have hly : (st [y]).length ≤ 1000 := by rw [st_len]; exact Nat.le_of_ble_eq_true rfl
  refine' code_defM [(Str.ofString "ch_b", .str (st [y]) u), (Str.ofString "ch_a", .str (st [x]) t)] ?k1 ?k2 ?k3 ?k4 ?k5 ?kA ?kF ?kK ?k6 ?k7 ?k8 ?k9 ?kR ?kB ?_ ?c2 ?c3 ?c4 ?c5
  walk_at "mine sides"
  k_steps
  · with_reducible rename (st _ == st _) = true => h1
    have e1 : costB x y = 0 := by unfold costB; rw [if_pos (by have := st_inj.mp (eq_of_beq h1); simpa using this)]
    exact hret _ _ _ _ ⟨⟨_, by rw [e1]; rfl⟩, rfl⟩ (by k_asm) (by k_asm)
  · with_reducible rename (st _ == st _) = false => h1
    with_reducible rename (Txt.lower _ == Txt.lower _) = true => h2
    rw [lowEq ⟨by simp, hxl⟩ ⟨by simp, hyl⟩] at h2
    have n1 : x ≠ y := by intro e; subst e; simp at h1
    have n2 : low x = low y := by simpa using h2
    have e1 : costB x y = 1 := by unfold costB; rw [if_neg n1, if_pos n2]
    exact hret _ _ _ _ ⟨⟨_, by rw [e1]; rfl⟩, rfl⟩ (by k_asm) (by k_asm)
  · with_reducible rename (st _ == st _) = false => h1
    with_reducible rename (Txt.lower _ == Txt.lower _) = false => h2
    rw [lowEq ⟨by simp, hxl⟩ ⟨by simp, hyl⟩] at h2
    have n1 : x ≠ y := by intro e; subst e; simp at h1
    have n2 : low x ≠ low y := by simpa using h2
    have e1 : costB x y = 2 := by unfold costB; rw [if_neg n1, if_neg n2]
    exact hret _ _ _ _ ⟨⟨_, by rw [e1]; rfl⟩, rfl⟩ (by k_asm) (by k_asm)
theorem sumM {prog : Program} {w : World} {A : Around} {E : Value → Shared → Prop} {s : Shared} {h₀ : Heap} {L l : Addr} {m : Str → Option Value} {news : List (Addr × Obj)} {n : Nat} {vs : List Value} {ns : List Int} {Q : Value → Shared → Prop} (hh : A.handled = none) (F : Fr h₀ L s.heap m) (N : News h₀ L s.heap news) (hm : (l, W.listOf vs.toArray n) ∈ news) (hi : IntsAre vs ns)
    (h : ∀ h' tk t', Fr h₀ L h' m → News h₀ L h' news → Q (.int ns.sum t') { s with heap := h', toks := tk }) :
    wpAny (model prog w) A (call (.builtin "sum") [.ref l]) Q E s := by
  have hl : s.heap.IsList l vs.toArray := N.isList hm
  obtain ⟨xs, hx⟩ := hi.allInts.items
  have hn : numsOf vs.toArray.toList = ns := by rw [show vs.toArray.toList = vs from rfl, hi.numsOf]
  rw [hx] at hl hn
  rw [nums_intItems] at hn
  refine sum_intListG hh hl fun h' tk t' hk => ?_
  have := h h' tk t' (F.keeps hk) (N.grown hk)
  rw [preSum_eq, List.take_of_length_le (by simp), hn]
  exact this
theorem kw57 : True := by
  k_with "call ref" => (k_here; (with_reducible show wpAny _ _ (call (Value.ref 123) _ _) _ _ _); k_dflt (refine Con.use (sub_con (by assumption) (by assumption)) (by k_asm) (by k_asm) (by k_asm) (by k_asm) (by k_asm) (by first | exact rfl | assumption) (by ktr_room) (by ktr_units) ?_; k_whole); intro v' nOut' h' tk' hpost F' N'; obtain ⟨⟨t', e1'⟩, e2'⟩ := hpost; subst e1'; subst e2'; (try dsimp only))
  exact True.intro
theorem kw58 : True := by
  k_with "call ref" => (k_here; (with_reducible show wpAny _ _ (call (Value.ref 216) _ _) _ _ _); k_dflt (refine Con.use (get_con (by assumption) (by assumption)) (by k_asm) (by k_asm) (by k_asm) (by k_asm) (by k_asm) (by first | exact rfl | assumption) (by ktr_room) (by ktr_units) ?_; k_whole); intro v' nOut' h' tk' hpost F' N'; obtain ⟨e1', e2'⟩ := hpost; subst e1'; subst e2'; (try dsimp only))
  exact True.intro
theorem kw59 : True := by
  k_with "binaryOp Pow int int" => (k_here; (with_reducible refine pow_int_small (by first | assumption | decide) (by first | assumption | decide) (by first | assumption | decide) ?_))
  exact True.intro
/-- the total so far -/
def JEven (nIn : List (Addr × Obj)) (xv : Addr) (rows : List (List Nat)) (fin : Int) (rest : List PRow) (m' : Str → Option Value) (news' : List (Addr × Obj)) : Prop :=
  ∃ (t : Int) (tt : Tok), m' (Str.ofString "book") = some (.ref xv) ∧ m' (Str.ofString "total") = some (.int t tt) ∧ (∀ p ∈ nIn, p ∈ news') ∧ evenB rows rest t = some fin
theorem evenB_cons {rows : List (List Nat)} {q : PRow} {r : List PRow} {t fin : Int} (h : evenB rows (q :: r) t = some fin) : ∃ row, findK rows q.1 = some row ∧ evenB rows r (t + (-1) ^ partsB q.1 row * (q.2 : Int) ^ 8) = some fin := by
  unfold evenB at h
  cases hg : findK rows q.1 with
  | none => rw [hg] at h; cases h
  | some a => rw [hg] at h; exact ⟨a, rfl, h⟩
theorem find_row {rows : List Row} {k row : List Nat} (h : findK (rows.map fun r => r.k) k = some row) (hv : ∀ r ∈ rows, r.v = st r.k) : ∃ r ∈ rows, r.k = row ∧ getV rows k .none = .str (st row) r.tv := by
  unfold findK at h
  rw [List.find?_map] at h
  obtain ⟨r, hr, hk⟩ := Option.map_eq_some_iff.mp h
  have h2 : findR rows (k.map low) = some r := hr
  refine ⟨r, List.mem_of_find?_eq_some hr, hk, ?_⟩
  unfold getV
  rw [h2]
  dsimp only
  rw [hv r (List.mem_of_find?_eq_some hr), hk]
theorem st_ascii {k : List Nat} (h : Wd k) : (st k).cps.all (· < 128) = true := by
  unfold st
  simp only [List.all_toArray, List.all_eq_true, decide_eq_true_eq]
  intro c hc
  have := let_range (h.lets c hc)
  omega
theorem costs_snoc {k row : List Nat} {i c d : Nat} (h1 : k[i]? = some c) (h2 : row[i]? = some d) : ((k.zip row).take (i + 1)).map (fun q => ((costB q.1 q.2 : Nat) : Int)) = ((k.zip row).take i).map (fun q => ((costB q.1 q.2 : Nat) : Int)) ++ [((costB c d : Nat) : Int)] := by
  have h : (k.zip row)[i]? = some (c, d) := by rw [List.getElem?_zip_eq_some]; exact ⟨h1, h2⟩
  rw [List.take_add_one, h, List.map_append]
  rfl
theorem costs_sum {l : List (Nat × Nat)} : (l.map fun q => ((costB q.1 q.2 : Nat) : Int)).sum = (((l.map fun q => costB q.1 q.2).sum : Nat) : Int) := by
  induction l with
  | nil => rfl
  | cons a l ih => rw [List.map_cons, List.sum_cons, ih, List.map_cons, List.sum_cons]; omega
theorem parts_le {k row : List Nat} (h : k.length ≤ 100) : partsB k row ≤ 200 := by
  unfold partsB
  have h1 : ∀ l : List (Nat × Nat), (l.map fun q => costB q.1 q.2).sum ≤ 2 * l.length := by
    intro l
    induction l with
    | nil => simp
    | cons a l ih =>
      have : costB a.1 a.2 ≤ 2 := by unfold costB; split <;> (try split) <;> omega
      simp only [List.map_cons, List.sum_cons, List.length_cons]
      omega
  have h2 := h1 (k.zip row)
  have h3 : (k.zip row).length ≤ k.length := by rw [List.length_zip]; exact Nat.min_le_left _ _
  omega
theorem neg_pow_mul {n : Nat} (b : Int) : IntMulOk ((-1 : Int) ^ n) b := by
  have h : (-1 : Int) ^ n = 1 ∨ (-1 : Int) ^ n = -1 := by
    induction n with
    | zero => exact .inl rfl
    | succ n ih => rw [Int.pow_succ]; rcases ih with e | e <;> rw [e] <;> simp
  rcases h with e | e <;> rw [e] <;> exact IntMulOk.of_left (by decide)

theorem even_con {w p loose mean mg mb} {nIn : List (Addr × Obj)} {wl xv dv lv : Addr} {nw nb : Nat} {ws : List PickRow} {rows : List Row} {fin : Int} (hw : PickTab wl nw ws nIn) (hT : Tab w xv dv lv nb rows nIn) (hv : ∀ r ∈ rows, r.v = st r.k) (hfin : evenB (rows.map fun r => r.k) (ws.map PickRow.plain) 1 = some fin)
    (hwl : ws.length ≤ 900) (hwk : ∀ r ∈ ws, Wd r.k ∧ r.v ≤ 256) :
    ConD w p loose mean mg mb 12 120 302 [.ref wl, .ref xv] [] nIn (fun r nOut => (∃ t, r = .int fin t) ∧ ∀ p ∈ nIn, p ∈ nOut) := by
  unfold ConD
  intro dp un gd cn cs a0 ccd cl outer A₀ base h₀ L m s Q E B F X N T hk hd hu hret
  refine wpAny_call ?_
  refine' code_defM [(Str.ofString "book", .ref xv), (Str.ofString "words", .ref wl)] ?k1 ?k2 ?k3 ?k4 ?k5 ?kA ?kF ?kK ?k6 ?k7 ?k8 ?k9 ?kR ?kB ?_ ?c2 ?c3 ?c4 ?c5
  walk_at "mine sides"
  k_steps
  refine Halt.mk ?_
  rename News _ _ _ _ => N1
  rename Fr _ _ _ _ => F1
  refine' for_feedD (n := (ws.map PickRow.ref).toArray.size) (Item := fun i v ex => (ws.map PickRow.ref).toArray[i]? = some v ∧ ex = []) (S := fun news => (wl, W.listOf (ws.map PickRow.ref).toArray nw) ∈ news) F1 (fun i => JEven nIn xv (rows.map fun r => r.k) fin ((ws.map PickRow.plain).drop i)) ?he ?turn ?fin
  case he =>
    k_steps
    refine Halt.mk ?_
    exact listFeedAt rfl ⟨_, _, rfl⟩ (by k_asm) N1 hw.list ⟨1, _, rfl, rfl, fun p hp => hp, hfin⟩
  case turn =>
    intro i v own ex m₁ news₁ h5 tk5 dr5 hi it hJ hS ap F₁ N₁
    obtain ⟨tot, tt, hm1, hm2, hsub, hev⟩ := hJ
    obtain ⟨hv9, rfl⟩ := it
    rw [List.getElem?_toArray, List.getElem?_map] at hv9
    obtain ⟨r1, hr1, rfl⟩ := Option.map_eq_some_iff.mp hv9
    have hr1m := List.mem_of_getElem? hr1
    have F₂ := frKnowL [(Str.ofString "book", .ref xv), (Str.ofString "total", .int tot tt)] F₁ (by simpa using ⟨hm1, hm2⟩)
    clear F₁ N1 F1
    have hr1' : (ws.map PickRow.plain)[i]? = some r1.plain := by rw [List.getElem?_map, hr1]; rfl
    rw [dropAt hr1'] at hev
    obtain ⟨row, hrow, hev2⟩ := evenB_cons hev
    obtain ⟨rb, hrb, hrbk, hget⟩ := find_row hrow hv
    have N₂ : News _ _ h5 (own ++ news₁) := N₁
    have ap1 : Apart own news₁ := ap
    clear N₁
    have hro : (r1.a, r1.obj) ∈ own ++ news₁ := List.mem_append_right _ (hsub _ (hw.objs r1 hr1m))
    have hT4 : Tab w xv dv lv nb rows (own ++ news₁) := hT.mono fun p hp => List.mem_append_right _ (hsub p hp)
    have hw4 : Wd r1.k := (hwk r1 hr1m).1
    obtain ⟨hin, ⟨tkh, hdi⟩, hli, hrob, hok⟩ := id hT4
    dsimp only [PickRow.ref]
    k_steps
    rename Fr _ _ _ _ => F5
    rw [hget] at F5 ⊢
    have hNsv : Fr _ _ _ _ := F5
    clear F5
    k_steps
    refine Halt.mk ?_
    rename News _ _ _ _ => N6
    rename Fr _ _ _ _ => F6
    have hwr : Wd row := by rw [← hrbk]; exact (hT.ok rb hrb).wd
    obtain ⟨Bs, hBs, N7⟩ : ∃ Bs, (∀ p ∈ own ++ news₁, p ∈ Bs) ∧ News _ _ _ Bs := ⟨_, fun p hp => hp, N6⟩
    clear N6
    refine' comp_feed (cl := []) (S := fun news => True) (n := min (st r1.k).cps.size (st row).cps.size) (Item := ZipItem (signP (st r1.k)) (signP (st row))) F6 (fun i acc m' news' => (m' (Str.ofString "book") = some (.ref xv) ∧ m' (Str.ofString "total") = some (.int tot tt) ∧ m' (Str.ofString "price") = some (.int (r1.v : Int) r1.tv)) ∧ IntsAre acc (((r1.k.zip row).take i).map fun q => ((costB q.1 q.2 : Nat) : Int)) ∧ acc.length ≤ i ∧ ∀ p ∈ Bs, p ∈ news') (fun a b hab ha => trivial) ?hsz ?hJn ?hclos ?hcell ?hkind ?hnames ?he6 ?turn6 ?fin6
    case hsz =>
      have := hw4.len
      rw [sizeLine_eq]
      refine Nat.le_trans (Nat.min_le_left _ _) (Nat.le_trans this (by decide))
    case hJn =>
      rintro i acc m' news' ⟨_, _, h, _⟩
      exact h
    case hclos => with_unfolding_all rfl
    case hcell => decide
    case hkind => rfl
    case hnames => decide
    case he6 =>
      k_steps
      rename Fr _ _ _ _ => F8
      rename News _ _ _ _ => N8
      refine zip_call (rd := []) (st_ascii hw4) (src_str (st_ascii hwr)) F8 N8 (List.forall_mem_nil _) fun h4 b F9 N9 lt9 => ?_
      refine' zipFeedThen (news := Bs) (J := fun m' news' => (m' (Str.ofString "book") = some (.ref xv) ∧ m' (Str.ofString "total") = some (.int tot tt) ∧ m' (Str.ofString "price") = some (.int (r1.v : Int) r1.tv)) ∧ news' = Bs) (sub_str rfl _ _ _) (sub_str rfl _ _ _) ⟨_, _, rfl⟩ F9 N9 (fun p hp => List.mem_append_left _ hp) (fun p hp => List.mem_append_right _ hp) ⟨rfl, rfl⟩ ⟨rfl, rfl⟩ (List.forall_mem_nil _) (List.forall_mem_nil _) lt9 ⟨⟨rfl, rfl, rfl⟩, rfl⟩ ?h9
      case' h9 => (intro it s₁ hA)
      exact FeedAt.weaken hA (fun l _ => ⟨List.forall_mem_nil _, List.forall_mem_nil _⟩) fun m' l hj => ⟨⟨hj.1, .nil, Nat.le_refl _, fun p hp => hj.2 ▸ hp⟩, trivial⟩
    case turn6 =>
      intro C D i v own9 ex acc nD oC mC m₁ news₂ h tk hi it hoC hJ hS9 ap9 off9 hCD F₁ N₁
      obtain ⟨hmm, hac, hal, hBn⟩ := hJ
      obtain ⟨vx, vy, T5, ⟨c, u, hc, rfl⟩, ⟨c2, u2, hc2, rfl⟩, rfl, rfl⟩ := it
      have hkc : r1.k[i]? = some c := by simpa [st] using hc
      have hkc2 : row[i]? = some c2 := by simpa [st] using hc2
      have hlc := hw4.lets c (List.mem_of_getElem? hkc)
      have hlc2 := hwr.lets c2 (List.mem_of_getElem? hkc2)
      have hcs : (⟨#[c]⟩ : Str) = st [c] := rfl
      have hcs2 : (⟨#[c2]⟩ : Str) = st [c2] := rfl
      rw [hcs, hcs2] at N₁
      have hTC : T5 ≠ C := nsNotPair (a := .str (st [c]) u) (b := .str (st [c2]) u2) N₁ hoC (List.mem_append_right _ (List.mem_append_right _ (.head _))) (List.mem_append_right _ (.head _))
      obtain ⟨Z, hZ⟩ : ∃ Z, Z = own9 ++ ((D, W.listOf acc.toArray nD) :: news₂) := ⟨_, rfl⟩
      have N₂ : News _ _ h ((C, oC) :: (T5, pairObj (.str (st [c]) u) (.str (st [c2]) u2)) :: Z) := newsSub N₁ fun p hp => by
        subst hZ
        simp only [List.cons_append, List.nil_append, List.mem_cons, List.mem_append] at hp ⊢
        rcases hp with rfl | rfl | hp | rfl | hp <;> first | (simp only [hp, eq_self, true_or, or_true]; done) | (simp only [eq_self, true_or, or_true]; done) | simp_all
      have off8 : ∀ p ∈ (T5, pairObj (.str (st [c]) u) (.str (st [c2]) u2)) :: Z, p.1 ≠ C := by
        intro p hp
        subst hZ
        rcases List.mem_cons.mp hp with rfl | hp
        · exact hTC
        · rcases List.mem_append.mp hp with hp | hp
          · exact Ne.symm (ap9 p hp (C, oC) (by simp))
          · rcases List.mem_cons.mp hp with rfl | hp
            · exact Ne.symm hCD
            · exact (off9 p hp).1
      clear N₁ N7 F6
      k_steps
      rename News _ _ _ _ => N9
      subst hZ
      refine CompTurn.intro (news' := news₂) (by k_asm) N9 (fun p hp => by simp [hp]) (.head _) (by assumption) (by simp) (fun p hp => by simp [hp]) (fun p hp q hq => ap9 p hp q (by simp [hq])) off9 trivial ⟨hmm, ?_, ?_, hBn⟩
      · rw [costs_snoc hkc hkc2]
        exact ksk_snoc hac
      · rw [List.length_append]
        exact Nat.succ_le_succ hal
    case fin6 =>
      intro D acc nD m₁ news₂ h tk hJ off9 F₁ N₁
      obtain ⟨hmm, hac, hal, hBn⟩ := hJ
      have hzl : (r1.k.zip row).length ≤ min (st r1.k).cps.size (st row).cps.size := by
        rw [List.length_zip]
        exact Nat.le_of_eq (by simp [st])
      rw [List.take_of_length_le hzl] at hac
      have F₂ := frKnowL [(Str.ofString "book", .ref xv), (Str.ofString "total", .int tot tt), (Str.ofString "price", .int (r1.v : Int) r1.tv)] F₁ (by simpa using hmm)
      have N₂ : News _ _ h ((D, W.listOf acc.toArray nD) :: Bs) := newsSub N₁ fun p hp => by
        rcases List.mem_cons.mp hp with rfl | hp
        · exact .head _
        · exact .tail _ (hBn p hp)
      clear N₁ F₁ N7 F6
      have hpl := parts_le (row := row) hw4.short
      have g0 := costs_sum (l := r1.k.zip row)
      have g1 : (0 : Int) ≤ ((r1.k.zip row).map fun q => ((costB q.1 q.2 : Nat) : Int)).sum := by rw [g0]; exact Int.natCast_nonneg _
      have g2 : ((r1.k.zip row).map fun q => ((costB q.1 q.2 : Nat) : Int)).sum ≤ 1000000 := by rw [g0]; unfold partsB at hpl; omega
      have hv256 := (hwk r1 hr1m).2
      have g3 : (r1.v : Int).natAbs < 2 ^ 64 := by omega
      have g4 := neg_pow_mul (n := (((r1.k.zip row).map fun q => ((costB q.1 q.2 : Nat) : Int)).sum).toNat) ((r1.v : Int) ^ (8 : Int).toNat)
      k_steps
      rename Fr _ _ _ _ => F9
      rename News _ _ _ _ => N9
      show FeedEndD _ _ _ _ _ _ _
      refine FeedEndD.intro (news' := news₁) F9 N9 (fun p hp => .tail _ (hBs _ (List.mem_append_left _ hp))) (fun p hp => .tail _ (hBs _ (List.mem_append_right _ hp))) ap1 (hsub _ hw.list) ⟨_, _, rfl, rfl, hsub, ?_⟩
      rw [g0, Int.toNat_natCast]
      exact hev2
  case fin =>
    intro m₁ news₁ h5 tk5 dr5 hJ F₁ N₁
    obtain ⟨tot, tt, hm1, hm2, hsub, hev⟩ := hJ
    rw [List.drop_eq_nil_of_le (by simp)] at hev
    unfold evenB at hev
    cases hev
    have F₂ := frKnowL [(Str.ofString "book", .ref xv), (Str.ofString "total", .int fin tt)] F₁ (by simpa using ⟨hm1, hm2⟩)
    clear F₁ N1 F1
    dsimp only
    k_steps
    exact hret _ _ _ _ _ ⟨⟨_, rfl⟩, hsub⟩ (by k_asm) (by k_asm)

/-- what the law asks of the picks, plain -/
def goodB (words : List PRow) (tot : Int) (picks : List PRow) : Bool :=
  picks.all (fun q => wdB q.1 && decide (q.2 ≤ 128)) && decide (picks.length ≤ 900) && ringB words picks &&
  match bookB picks [([], 1)] with
  | some fin => fin.all (fun q => decide (q.1.length ≤ 100) && q.1.all isLet) && (fin.filter fun q => !q.1.isEmpty).length == words.length && decide (evenB ((fin.filter fun q => !q.1.isEmpty).map fun q => q.1) words 1 = some tot)
  | none => false
theorem goodB_fin {words picks : List PRow} {tot : Int} (h : goodB words tot picks = true) : (∀ q ∈ picks, Wd q.1 ∧ q.2 ≤ 128) ∧ picks.length ≤ 900 ∧ ringB words picks = true ∧ ∃ fin, bookB picks [([], 1)] = some fin ∧ (∀ q ∈ fin, Wd q.1) ∧ (fin.filter fun q => !q.1.isEmpty).length = words.length ∧ evenB ((fin.filter fun q => !q.1.isEmpty).map fun q => q.1) words 1 = some tot := by
  unfold goodB at h
  cases hb : bookB picks [([], 1)] with
  | none => rw [hb] at h; simp at h
  | some fin =>
    rw [hb] at h
    simp only [Bool.and_eq_true, List.all_eq_true, decide_eq_true_eq, beq_iff_eq] at h
    obtain ⟨⟨⟨h1, h2⟩, h3⟩, ⟨h4, h5⟩, h6⟩ := h
    exact ⟨fun q hq => ⟨wdB_wd (h1 q hq).1, (h1 q hq).2⟩, h2, h3, fin, rfl, fun q hq => ⟨(h4 q hq).1, (h4 q hq).2⟩, h5, h6⟩
def rows3 (l : List Nat) : List PRow := l.zipIdx.map fun q => ([97 + q.2], q.1)
def words3 (l : List Nat) : List PRow := (wordsB (rows3 l) 12 [] [([], 1)]).getD []
theorem words44 : wordsB (rows3 [4, 4]) 12 [] [([], 1)] = some (words3 [4, 4]) := by decide +kernel
theorem words48 : wordsB (rows3 [4, 8, 16]) 12 [] [([], 1)] = some (words3 [4, 8, 16]) := by decide +kernel
theorem words28 : wordsB (rows3 [2, 8]) 12 [] [([], 1)] = some (words3 [2, 8]) := by decide +kernel
theorem wlen44 : (words3 [4, 4]).length = 14 := by decide +kernel
theorem wlen48 : (words3 [4, 8, 16]).length = 15 := by decide +kernel
theorem wlen28 : (words3 [2, 8]).length = 26 := by decide +kernel
theorem wall44 : ((words3 [4, 4]).all fun q => wdB q.1 && decide (q.2 ≤ 256)) = true := by decide +kernel
theorem wall48 : ((words3 [4, 8, 16]).all fun q => wdB q.1 && decide (q.2 ≤ 256)) = true := by decide +kernel
theorem wall28 : ((words3 [2, 8]).all fun q => wdB q.1 && decide (q.2 ≤ 256)) = true := by decide +kernel
theorem wall_of {l : List PRow} (h : (l.all fun q => wdB q.1 && decide (q.2 ≤ 256)) = true) {ws : List PickRow} (e : ws.map PickRow.plain = l) : ∀ r ∈ ws, Wd r.k ∧ r.v ≤ 256 := by
  intro r hr
  simp only [List.all_eq_true, Bool.and_eq_true, decide_eq_true_eq] at h
  have := h r.plain (e ▸ List.mem_map_of_mem (f := PickRow.plain) hr)
  exact ⟨wdB_wd this.1, this.2⟩
/-- eight draws -/
theorem draw_len (sc : List Int) : (List.filter (fun _ : Int => true) (List.take 8 sc ++ List.drop (Int.toNat (↑(List.length sc) : Int)) [3, 1, 2, 5, 0, 4, 6, 0])).length = 8 := by
  rw [List.filter_eq_self.mpr (fun _ _ => rfl)]
  simp
  omega
theorem draws_of {ys : List Value} {xs : List Int} (h : IntsAre ys (List.map (fun a => Int.fmod a 1000000) xs)) (hl : xs.length = 8) : ∃ ds : List (Int × Tok), ys = ds.map (fun q => Value.int q.1 q.2) ∧ ds.length = 8 ∧ ∀ q ∈ ds, 0 ≤ q.1 ∧ q.1 < 1000000 := by
  have gen : ∀ (xs : List Int) (ys : List Value), IntsAre ys (List.map (fun a => Int.fmod a 1000000) xs) → ∃ ds : List (Int × Tok), ys = ds.map (fun q => Value.int q.1 q.2) ∧ ds.length = xs.length ∧ ∀ q ∈ ds, 0 ≤ q.1 ∧ q.1 < 1000000 := by
    intro xs
    induction xs with
    | nil => intro ys h; cases h; exact ⟨[], rfl, rfl, by simp⟩
    | cons x xs ih =>
      intro ys h
      rw [List.map_cons] at h
      cases h with
      | cons n t h2 =>
        obtain ⟨ds, e1, e2, e3⟩ := ih _ h2
        refine ⟨(Int.fmod x 1000000, t) :: ds, by rw [e1]; rfl, by simp [e2], fun q hq => ?_⟩
        rcases List.mem_cons.mp hq with rfl | hq
        · exact ⟨Int.fmod_nonneg_of_pos x (by decide), Int.fmod_lt_of_pos x (by decide)⟩
        · exact e3 q hq
  obtain ⟨ds, e1, e2, e3⟩ := gen xs ys h
  exact ⟨ds, e1, by rw [e2, hl], e3⟩

/-- the book by Bool tests alone -/
def bgF (pick : PRow) : Nat → List Nat → Nat → Option (List PRow)
  | 0, _, _ => none
  | f + 1, k, p => match Nat.ble 256 p with
    | true => some []
    | false => match Nat.ble k.length 50 with
      | true => match bgF pick f (k ++ capw pick.1) (p * pick.2) with
        | some l => some ((k, p) :: l)
        | none => none
      | false => none
def bpF (pick : PRow) : List PRow → Option (List PRow)
  | [] => some []
  | q :: r => match bgF pick 10 q.1 q.2 with
    | some l => match bpF pick r with
      | some m => some (l ++ m)
      | none => none
    | none => none
theorem bgF_eq {pick : PRow} : ∀ {f : Nat} {k : List Nat} {p : Nat} {l acc : List PRow}, bgF pick f k p = some l → acc.length + l.length ≤ 900 → bgrow pick f acc k p = some (acc ++ l)
  | 0, _, _, _, _, h, _ => by unfold bgF at h; cases h
  | f + 1, k, p, l, acc, h, hl => by
    unfold bgF at h
    unfold bgrow
    cases hp : Nat.ble 256 p with
    | true =>
      rw [hp] at h
      have e : ¬ p < 256 := by have := Nat.le_of_ble_eq_true hp; omega
      rw [if_neg e]
      cases h
      rw [List.append_nil]
    | false =>
      rw [hp] at h
      have e : p < 256 := by
        have : ¬ 256 ≤ p := fun hc => by rw [Nat.ble_eq_true_of_le hc] at hp; cases hp
        omega
      rw [if_pos e]
      cases hk : Nat.ble k.length 50 with
      | false => rw [hk] at h; cases h
      | true =>
        rw [hk] at h
        dsimp only at h
        cases hg : bgF pick f (k ++ capw pick.1) (p * pick.2) with
        | none => rw [hg] at h; cases h
        | some l' =>
          rw [hg] at h
          cases h
          have hk' := Nat.le_of_ble_eq_true hk
          rw [List.length_cons] at hl
          rw [if_pos (by simp; omega)]
          rw [bgF_eq hg (by simp; omega)]
          simp
theorem bpF_eq {pick : PRow} : ∀ {rows m acc : List PRow}, bpF pick rows = some m → acc.length + m.length ≤ 900 → bpass pick rows acc = some (acc ++ m)
  | [], m, acc, h, _ => by unfold bpF at h; cases h; unfold bpass; rw [List.append_nil]
  | q :: r, m, acc, h, hl => by
    unfold bpF at h
    unfold bpass
    cases hg : bgF pick 10 q.1 q.2 with
    | none => rw [hg] at h; cases h
    | some l =>
      rw [hg] at h
      dsimp only at h
      cases hm : bpF pick r with
      | none => rw [hm] at h; cases h
      | some m' =>
        rw [hm] at h
        cases h
        rw [List.length_append] at hl
        rw [bgF_eq hg (by omega)]
        dsimp only
        rw [bpF_eq hm (by rw [List.length_append]; omega), List.append_assoc]
theorem bookB_snoc {pick : PRow} : ∀ {picks rows b b' : List PRow}, bookB picks rows = some b → bpass pick b [] = some b' → bookB (picks ++ [pick]) rows = some b'
  | [], rows, b, b', h, hb => by
    unfold bookB at h
    cases h
    show bookB [pick] rows = some b'
    unfold bookB
    rw [hb]
    rfl
  | q :: r, rows, b, b', h, hb => by
    obtain ⟨rows', e1, e2⟩ := bookB_cons h
    show bookB (q :: (r ++ [pick])) rows = some b'
    unfold bookB
    rw [e1]
    exact bookB_snoc e2 hb
/-- every row of the book is of letters -/
theorem bgrow_wd {pick : PRow} (hp : Wd pick.1) : ∀ {f : Nat} {acc fin : List PRow} {k : List Nat} {p : Nat}, bgrow pick f acc k p = some fin → (∀ c ∈ k, isLet c = true) → (∀ q ∈ acc, Wd q.1) → ∀ q ∈ fin, Wd q.1
  | 0, _, _, _, _, h, _, _ => by unfold bgrow at h; cases h
  | f + 1, acc, fin, k, p, h, hk, ha => by
    unfold bgrow at h
    split at h
    · split at h
      · rename_i h2
        simp only [Bool.and_eq_true, decide_eq_true_eq] at h2
        refine bgrow_wd hp h (fun c hc => ?_) fun q hq => ?_
        · rcases List.mem_append.mp hc with hc | hc
          · exact hk c hc
          · exact hp.cap.lets c hc
        · rcases List.mem_append.mp hq with hq | hq
          · exact ha q hq
          · rw [List.mem_singleton.mp hq]
            exact ⟨by show k.length ≤ 100; omega, hk⟩
      · cases h
    · cases h; exact ha
theorem bpass_wd {pick : PRow} (hp : Wd pick.1) : ∀ {rows acc fin : List PRow}, bpass pick rows acc = some fin → (∀ q ∈ rows, Wd q.1) → (∀ q ∈ acc, Wd q.1) → ∀ q ∈ fin, Wd q.1
  | [], _, _, h, _, ha => by unfold bpass at h; cases h; exact ha
  | q :: r, acc, fin, h, hr, ha => by
    obtain ⟨acc', e1, e2⟩ := bpass_cons h
    exact bpass_wd hp e2 (fun x hx => hr x (.tail _ hx)) (bgrow_wd hp e1 (hr q (.head _)).lets ha)
theorem bookB_wd : ∀ {picks rows fin : List PRow}, bookB picks rows = some fin → (∀ q ∈ picks, Wd q.1) → (∀ q ∈ rows, Wd q.1) → ∀ q ∈ fin, Wd q.1
  | [], _, _, h, _, hr => by unfold bookB at h; cases h; exact hr
  | q :: r, rows, fin, h, hp, hr => by
    obtain ⟨rows', e1, e2⟩ := bookB_cons h
    exact bookB_wd e2 (fun x hx => hp x (.tail _ hx)) (bpass_wd (hp q (.head _)) e1 hr (by simp))
/-- a word's code: its letters without their size, as a numeral -/
def cod : List Nat → Nat
  | [] => 0
  | c :: r => c % 32 + 4 * cod r
/-- whether an odd number of its letters is great -/
def sgn : List Nat → Bool
  | [] => false
  | c :: r => match Nat.ble 97 c with
    | true => sgn r
    | false => !(sgn r)
theorem let_code : ∀ c : Fin 100, isLet c.val = true → 1 ≤ c.val % 32 ∧ c.val % 32 ≤ 3 ∧ low c.val = 96 + c.val % 32 := by decide +kernel
theorem letCode {c : Nat} (h : isLet c = true) : 1 ≤ c % 32 ∧ c % 32 ≤ 3 ∧ low c = 96 + c % 32 := let_code ⟨c, by have := let_range h; omega⟩ h
theorem cod_inj : ∀ {r k : List Nat}, (∀ c ∈ r, isLet c = true) → (∀ c ∈ k, isLet c = true) → (cod r = cod k ↔ r.map low = k.map low)
  | [], [], _, _ => by simp
  | [], c :: k, _, hk => by
    have := letCode (hk c (.head _))
    simp only [cod, List.map_nil, List.map_cons]
    constructor
    · intro h; omega
    · intro h; cases h
  | c :: r, [], hr, _ => by
    have := letCode (hr c (.head _))
    simp only [cod, List.map_nil, List.map_cons]
    constructor
    · intro h; omega
    · intro h; cases h
  | c :: r, d :: k, hr, hk => by
    have h1 := letCode (hr c (.head _))
    have h2 := letCode (hk d (.head _))
    have ih := @cod_inj r k (fun x hx => hr x (.tail _ hx)) (fun x hx => hk x (.tail _ hx))
    simp only [cod, List.map_cons, List.cons.injEq]
    constructor
    · intro h
      exact ⟨by omega, ih.mp (by omega)⟩
    · rintro ⟨e1, e2⟩
      have := ih.mpr e2
      omega
theorem low_of_isLow {c : Nat} (h : isLow c = true) : low c = c ∧ 97 ≤ c ∧ isLet c = true := by
  unfold isLow at h
  simp only [Bool.and_eq_true, decide_eq_true_eq] at h
  refine ⟨by unfold low; rw [if_neg (by omega)], h.1, ?_⟩
  unfold isLet
  simp only [Bool.or_eq_true, Bool.and_eq_true, decide_eq_true_eq]
  exact .inl h
theorem map_low {k : List Nat} (h : ∀ c ∈ k, isLow c = true) : k.map low = k := by
  induction k with
  | nil => rfl
  | cons a k ih => rw [List.map_cons, (low_of_isLow (h a (.head _))).1, ih fun c hc => h c (.tail _ hc)]
theorem lowLets {k : List Nat} (h : ∀ c ∈ k, isLow c = true) : ∀ c ∈ k, isLet c = true := fun c hc => (low_of_isLow (h c hc)).2.2
theorem parts_sgn : ∀ {k row : List Nat}, (∀ c ∈ k, isLow c = true) → row.map low = k.map low → (-1 : Int) ^ partsB k row = if sgn row then -1 else 1
  | [], [], _, _ => by decide
  | [], _ :: _, _, h => by cases h
  | _ :: _, [], _, h => by cases h
  | a :: k, c :: row, hk, h => by
    simp only [List.map_cons, List.cons.injEq] at h
    have ih := @parts_sgn k row (fun x hx => hk x (.tail _ hx)) h.2
    have ha := low_of_isLow (hk a (.head _))
    have e : partsB (a :: k) (c :: row) = costB a c + partsB k row := by unfold partsB; simp
    rw [e, Int.pow_add, ih]
    have hlc : low c = a := by rw [h.1, ha.1]
    cases hc : Nat.ble 97 c with
    | true =>
      have h97 := Nat.le_of_ble_eq_true hc
      have e1 : low c = c := by unfold low; rw [if_neg (by omega)]
      have e2 : a = c := by rw [← hlc, e1]
      have e3 : costB a c = 0 := by unfold costB; rw [if_pos e2]
      have es : sgn (c :: row) = sgn row := by
        show (match Nat.ble 97 c with | true => sgn row | false => !(sgn row)) = _
        rw [hc]
      rw [e3, es, Int.pow_zero, Int.one_mul]
    | false =>
      have h97 : ¬ 97 ≤ c := fun q => by rw [Nat.ble_eq_true_of_le q] at hc; cases hc
      have e2 : a ≠ c := fun q => h97 (q ▸ ha.2.1)
      have e3 : costB a c = 1 := by unfold costB; rw [if_neg e2, if_pos h.1.symm]
      have es : sgn (c :: row) = !(sgn row) := by
        show (match Nat.ble 97 c with | true => sgn row | false => !(sgn row)) = _
        rw [hc]
      rw [e3, es]
      cases sgn row <;> rfl
def findF : List (Nat × Bool) → Nat → Option Bool
  | [], _ => none
  | q :: r, w => match Nat.beq q.1 w with
    | true => some q.2
    | false => findF r w
theorem findF_eq {k : List Nat} (hk : ∀ c ∈ k, isLow c = true) {s : Bool} : ∀ {rows : List (List Nat)}, (∀ r ∈ rows, ∀ c ∈ r, isLet c = true) → findF (rows.map fun r => (cod r, sgn r)) (cod k) = some s → ∃ row, findK rows k = some row ∧ row.map low = k.map low ∧ sgn row = s
  | [], _, h => by cases h
  | r :: rows, hr, h => by
    rw [List.map_cons] at h
    unfold findF at h
    have hi := cod_inj (hr r (.head _)) (lowLets hk)
    cases hb : Nat.beq (cod r) (cod k) with
    | true =>
      dsimp only at h
      rw [hb] at h
      have e := hi.mp (Nat.eq_of_beq_eq_true hb)
      refine ⟨r, ?_, e, Option.some.inj h⟩
      unfold findK
      rw [List.find?_cons_of_pos (by rw [e]; simp)]
    | false =>
      dsimp only at h
      rw [hb] at h
      obtain ⟨row, e1, e2, e3⟩ := findF_eq hk (fun x hx => hr x (.tail _ hx)) h
      refine ⟨row, ?_, e2, e3⟩
      unfold findK at e1 ⊢
      rw [List.find?_cons_of_neg, e1]
      intro q
      rw [beq_iff_eq] at q
      rw [hi.mpr q, Nat.beq_refl] at hb
      cases hb
def evenF (rows : List (Nat × Bool)) : List (Nat × Nat) → Nat → Nat → Option (Nat × Nat)
  | [], a, b => some (a, b)
  | q :: r, a, b => match findF rows q.1 with
    | some false => evenF rows r (a + q.2) b
    | some true => evenF rows r a (b + q.2)
    | none => none
theorem evenF_eq {rows : List (List Nat)} (hr : ∀ r ∈ rows, ∀ c ∈ r, isLet c = true) : ∀ {ws : List PRow} {a b a' b' : Nat}, (∀ q ∈ ws, ∀ c ∈ q.1, isLow c = true) → evenF (rows.map fun r => (cod r, sgn r)) (ws.map fun q => (cod q.1, q.2 ^ 8)) a b = some (a', b') → evenB rows ws ((a : Int) - b) = some ((a' : Int) - b')
  | [], a, b, a', b', _, h => by
    rw [List.map_nil] at h
    unfold evenF at h
    cases h
    rfl
  | q :: ws, a, b, a', b', hw, h => by
    rw [List.map_cons] at h
    unfold evenF at h
    dsimp only at h
    unfold evenB
    cases hf : findF (rows.map fun r => (cod r, sgn r)) (cod q.1) with
    | none => rw [hf] at h; cases h
    | some s =>
      obtain ⟨row, e1, e2, e3⟩ := findF_eq (hw q (.head _)) hr hf
      rw [hf] at h
      rw [e1]
      dsimp only
      rw [parts_sgn (hw q (.head _)) e2, e3]
      cases s with
      | false =>
        dsimp only at h
        have ih := evenF_eq hr (fun x hx => hw x (.tail _ hx)) h
        rw [← ih]
        congr 1
        simp
        omega
      | true =>
        dsimp only at h
        have ih := evenF_eq hr (fun x hx => hw x (.tail _ hx)) h
        rw [← ih]
        congr 1
        simp
        omega
/-- the classes of words by turning -/
def clsF : List (Nat × Nat) → Nat → Option Nat
  | [], _ => none
  | q :: r, w => match Nat.beq q.1 w with
    | true => some q.2
    | false => clsF r w
def cntF (j : Nat) : List Nat → Nat
  | [] => 0
  | c :: r => match Nat.beq c j with
    | true => cntF j r + 1
    | false => cntF j r
def classes (tb : List (Nat × Nat)) : List PRow → Option (List Nat)
  | [] => some []
  | p :: r => match clsF tb (cod p.1) with
    | some j => match classes tb r with
      | some l => some (j :: l)
      | none => none
    | none => none
def duesF (cs : List Nat) : List Nat → Nat → Bool
  | [], _ => true
  | d :: r, j => match Nat.beq (cntF j cs) d with
    | true => duesF cs r (j + 1)
    | false => false
theorem duesF_at {cs : List Nat} : ∀ {ds : List Nat} {i k d : Nat}, duesF cs ds i = true → ds[k]? = some d → cntF (i + k) cs = d
  | [], _, _, _, _, h => by simp at h
  | e :: r, i, k, d, h, hk => by
    unfold duesF at h
    cases hb : Nat.beq (cntF i cs) e with
    | false => rw [hb] at h; cases h
    | true =>
      rw [hb] at h
      cases k with
      | zero =>
        rw [List.getElem?_cons_zero] at hk
        cases hk
        exact Nat.eq_of_beq_eq_true hb
      | succ k =>
        rw [List.getElem?_cons_succ] at hk
        have := duesF_at (i := i + 1) h hk
        rw [← this]
        congr 1
        omega
theorem clsF_mem : ∀ {tb : List (Nat × Nat)} {w j : Nat}, clsF tb w = some j → w ∈ tb.map fun q => q.1
  | [], _, _, h => by cases h
  | q :: r, w, j, h => by
    unfold clsF at h
    cases hb : Nat.beq q.1 w with
    | true => rw [List.map_cons, ← Nat.eq_of_beq_eq_true hb]; exact .head _
    | false => rw [hb] at h; exact .tail _ (clsF_mem h)
/-- the static facts of a list of words and its classes -/
structure Cls (words : List PRow) (tb : List (Nat × Nat)) (dues : List Nat) : Prop where
  codes : tb.map (fun q => q.1) = words.map fun w => cod w.1
  lows : (words.all fun w => w.1.all isLow) = true
  cls : (words.all fun w => match clsF tb (cod w.1) with | some j => dues[j]? == some (dueB w.1) && words.all (fun v => (turnsB w.1).contains v.1 == (clsF tb (cod v.1) == some j)) | none => false) = true
theorem Cls.low {words : List PRow} {tb : List (Nat × Nat)} {dues : List Nat} (C : Cls words tb dues) : ∀ q ∈ words, ∀ c ∈ q.1, isLow c = true := by
  intro q hq c hc
  have h := C.lows
  simp only [List.all_eq_true] at h
  exact h q hq c hc
theorem Cls.word {words : List PRow} {tb : List (Nat × Nat)} {dues : List Nat} (C : Cls words tb dues) {k : List Nat} (hk : ∀ c ∈ k, isLow c = true) {j : Nat} (h : clsF tb (cod k) = some j) : ∃ v ∈ words, v.1 = k := by
  have hm := clsF_mem h
  rw [C.codes] at hm
  obtain ⟨v, hv, e⟩ := List.mem_map.mp hm
  refine ⟨v, hv, ?_⟩
  have e2 := (cod_inj (lowLets (C.low v hv)) (lowLets hk)).mp e
  rwa [map_low (C.low v hv), map_low hk] at e2
theorem Cls.ring {words : List PRow} {tb : List (Nat × Nat)} {dues : List Nat} (C : Cls words tb dues) {picks : List PRow} (hp : ∀ q ∈ picks, ∀ c ∈ q.1, isLow c = true) {cs : List Nat} (hc : classes tb picks = some cs) (hd : duesF cs dues 0 = true) : ringB words picks = true := by
  unfold ringB
  rw [List.all_eq_true]
  intro w hw
  have h := C.cls
  rw [List.all_eq_true] at h
  have h1 := h w hw
  cases hj : clsF tb (cod w.1) with
  | none => rw [hj] at h1; cases h1
  | some j =>
    rw [hj] at h1
    simp only [Bool.and_eq_true, beq_iff_eq, List.all_eq_true] at h1
    obtain ⟨h2, h3⟩ := h1
    have hcnt : ∀ {ps : List PRow} {cs : List Nat}, (∀ q ∈ ps, ∀ c ∈ q.1, isLow c = true) → classes tb ps = some cs → (ps.filter fun p => (turnsB w.1).contains p.1).length = cntF j cs := by
      intro ps
      induction ps with
      | nil =>
        intro cs _ h
        unfold classes at h
        cases h
        rfl
      | cons p r ih =>
        intro cs hl h
        unfold classes at h
        cases hp1 : clsF tb (cod p.1) with
        | none => rw [hp1] at h; cases h
        | some c =>
          rw [hp1] at h
          dsimp only at h
          cases hr : classes tb r with
          | none => rw [hr] at h; cases h
          | some l =>
            rw [hr] at h
            cases h
            obtain ⟨v, hv, e⟩ := C.word (hl p (.head _)) hp1
            have h4 := h3 v hv
            rw [e, hp1] at h4
            have ih2 := ih (fun q hq => hl q (.tail _ hq)) hr
            rw [List.filter_cons, h4]
            unfold cntF
            cases hb : Nat.beq c j with
            | true =>
              have := Nat.eq_of_beq_eq_true hb
              rw [if_pos (by rw [this]; simp), List.length_cons, ih2]
            | false =>
              have hne : c ≠ j := fun e => by rw [e, Nat.beq_refl] at hb; cases hb
              have e5 : ((some c == some j) = true) = False := by simp [hne]
              rw [if_neg (by rw [e5]; exact not_false)]
              exact ih2
    rw [beq_iff_eq, hcnt hp hc]
    have := duesF_at hd h2
    rw [Nat.zero_add] at this
    exact this
def leafF (tb : List (Nat × Nat)) (dues : List Nat) (w8 : List (Nat × Nat)) (len T : Nat) (picks book : List PRow) : Bool :=
  match picks.all (fun q => wdB q.1 && q.1.all isLow && Nat.ble q.2 128) && Nat.ble picks.length 900 with
  | false => false
  | true => match classes tb picks with
    | none => false
    | some cs => match duesF cs dues 0 with
      | false => false
      | true => match Nat.beq (book.filter fun q => !q.1.isEmpty).length len with
        | false => false
        | true => match evenF ((book.filter fun q => !q.1.isEmpty).map fun q => (cod q.1, sgn q.1)) w8 1 0 with
          | some (x, y) => Nat.beq (x + T) y
          | none => false
theorem leafF_good {words : List PRow} {tb w8 : List (Nat × Nat)} {dues : List Nat} {len T : Nat} (C : Cls words tb dues) (hw8 : w8 = words.map fun q => (cod q.1, q.2 ^ 8)) (hlen : words.length = len) {tot : Int} (htot : tot = -(T : Int)) {picks book : List PRow} (h : leafF tb dues w8 len T picks book = true) (hb : bookB picks [([], 1)] = some book) : goodB words tot picks = true := by
  unfold leafF at h
  cases h1 : (picks.all (fun q => wdB q.1 && q.1.all isLow && Nat.ble q.2 128) && Nat.ble picks.length 900) with
  | false => rw [h1] at h; cases h
  | true =>
    rw [h1] at h
    dsimp only at h
    cases h2 : classes tb picks with
    | none => rw [h2] at h; cases h
    | some cs =>
      rw [h2] at h
      dsimp only at h
      cases h3 : duesF cs dues 0 with
      | false => rw [h3] at h; cases h
      | true =>
        rw [h3] at h
        dsimp only at h
        cases h4 : Nat.beq (book.filter fun q => !q.1.isEmpty).length len with
        | false => rw [h4] at h; cases h
        | true =>
          rw [h4] at h
          dsimp only at h
          cases h5 : evenF ((book.filter fun q => !q.1.isEmpty).map fun q => (cod q.1, sgn q.1)) w8 1 0 with
          | none => rw [h5] at h; cases h
          | some xy =>
            obtain ⟨x, y⟩ := xy
            rw [h5] at h
            dsimp only at h
            simp only [Bool.and_eq_true, List.all_eq_true] at h1
            have hlow : ∀ q ∈ picks, ∀ c ∈ q.1, isLow c = true := fun q hq => (h1.1 q hq).1.2
            have hwd : ∀ q ∈ picks, Wd q.1 := fun q hq => wdB_wd (h1.1 q hq).1.1
            have hbw : ∀ q ∈ book, Wd q.1 := bookB_wd hb hwd (by intro q hq; rw [List.mem_singleton.mp hq]; exact ⟨by decide, by simp⟩)
            have hbl : ∀ r ∈ (book.filter fun q => !q.1.isEmpty).map fun q => q.1, ∀ c ∈ r, isLet c = true := by
              intro r hr
              obtain ⟨q, hq, rfl⟩ := List.mem_map.mp hr
              exact (hbw q (List.mem_filter.mp hq).1).lets
            rw [hw8] at h5
            have e6 : ((book.filter fun q => !q.1.isEmpty).map fun q => (cod q.1, sgn q.1)) = ((book.filter fun q => !q.1.isEmpty).map fun q => q.1).map fun r => (cod r, sgn r) := by rw [List.map_map]; rfl
            rw [e6] at h5
            have e7 := evenF_eq hbl C.low h5
            have e8 : ((x : Int) - (y : Int)) = tot := by have := Nat.eq_of_beq_eq_true h; omega
            unfold goodB
            rw [hb]
            simp only [Bool.and_eq_true, List.all_eq_true, decide_eq_true_eq, beq_iff_eq]
            refine ⟨⟨⟨fun q hq => ⟨(h1.1 q hq).1.1, Nat.le_of_ble_eq_true (h1.1 q hq).2⟩, Nat.le_of_ble_eq_true h1.2⟩, C.ring hlow h2 h3⟩, ⟨fun q hq => ⟨(hbw q hq).short, (hbw q hq).lets⟩, ?_⟩, ?_⟩
            · rw [Nat.eq_of_beq_eq_true h4, hlen]
            · rw [← e8, ← e7]
              rfl
def allF (leaf : List PRow → List PRow → Bool) : Nat → List PRow → List PRow → List PRow → Bool
  | 0, _, _, _ => false
  | n + 1, rows, picks, book => match rows.isEmpty with
    | true => leaf picks book
    | false => (List.range rows.length).all fun i => match strikeB rows i with
      | some (rows', pick) => match bpF pick book with
        | some b => match Nat.ble b.length 900 with
          | true => allF leaf n rows' (picks ++ [pick]) b
          | false => false
        | none => false
      | none => false
theorem allF_eq {leaf : List PRow → List PRow → Bool} {good : List PRow → Bool} (hl : ∀ picks book, leaf picks book = true → bookB picks [([], 1)] = some book → good picks = true) : ∀ {n : Nat} {rows picks book : List PRow}, allF leaf n rows picks book = true → bookB picks [([], 1)] = some book → allB good n rows picks = true
  | 0, _, _, _, h, _ => by unfold allF at h; cases h
  | n + 1, rows, picks, book, h, hb => by
    unfold allF at h
    unfold allB
    cases he : rows.isEmpty with
    | true =>
      rw [he] at h
      rw [if_pos rfl]
      exact hl _ _ h hb
    | false =>
      rw [he] at h
      rw [if_neg (by decide)]
      dsimp only at h
      rw [List.all_eq_true] at h ⊢
      intro i hi
      have h1 := h i hi
      cases hs : strikeB rows i with
      | none => rw [hs] at h1; cases h1
      | some rp =>
        obtain ⟨rows', pick⟩ := rp
        rw [hs] at h1
        dsimp only at h1 ⊢
        cases hp : bpF pick book with
        | none => rw [hp] at h1; cases h1
        | some b =>
          rw [hp] at h1
          dsimp only at h1
          cases hz : Nat.ble b.length 900 with
          | false => rw [hz] at h1; cases h1
          | true =>
            rw [hz] at h1
            have e := bpF_eq (acc := []) hp (by have := Nat.le_of_ble_eq_true hz; simpa using this)
            exact allF_eq hl h1 (bookB_snoc hb e)
def kidF (rows book : List PRow) (i : Nat) : Option (List PRow × PRow × List PRow) :=
  match strikeB rows i with
  | some (rows', pick) => match bpF pick book with
    | some b => match Nat.ble b.length 900 with
      | true => some (rows', pick, b)
      | false => none
    | none => none
  | none => none
theorem allF_step {leaf : List PRow → List PRow → Bool} {n : Nat} {rows picks book : List PRow} (l : List (List PRow × PRow × List PRow)) (he : rows.isEmpty = false) (hs : (List.range rows.length).map (kidF rows book) = l.map some) (h : ∀ q ∈ l, allF leaf n q.1 (picks ++ [q.2.1]) q.2.2 = true) : allF leaf (n + 1) rows picks book = true := by
  unfold allF
  rw [he]
  dsimp only
  rw [List.all_eq_true]
  intro i hi
  have h1 : kidF rows book i ∈ l.map some := hs ▸ List.mem_map_of_mem (f := kidF rows book) hi
  obtain ⟨q, hq, e⟩ := List.mem_map.mp h1
  have h2 := h q hq
  unfold kidF at e
  cases hs : strikeB rows i with
  | none => rw [hs] at e; cases e
  | some rp =>
    obtain ⟨rows', pick⟩ := rp
    rw [hs] at e
    dsimp only at e ⊢
    cases hp : bpF pick book with
    | none => rw [hp] at e; cases e
    | some b =>
      rw [hp] at e
      dsimp only at e ⊢
      cases hz : Nat.ble b.length 900 with
      | false => rw [hz] at e; cases e
      | true =>
        rw [hz] at e
        cases e
        exact h2

def tb44 : List (Nat × Nat) := [(1, 0), (2, 1), (5, 2), (9, 3), (6, 3), (10, 4), (21, 5), (37, 6), (25, 6), (41, 7), (22, 6), (38, 7), (26, 7), (42, 8)]
def du44 : List Nat := [1, 1, 0, 1, 0, 0, 1, 1, 0]
def w844 : List (Nat × Nat) := [(1, 65536), (2, 65536), (5, 4294967296), (9, 4294967296), (6, 4294967296), (10, 4294967296), (21, 281474976710656), (37, 281474976710656), (25, 281474976710656), (41, 281474976710656), (22, 281474976710656), (38, 281474976710656), (26, 281474976710656), (42, 281474976710656)]
theorem cls44 : Cls (words3 [4, 4]) tb44 du44 := ⟨by decide +kernel, by decide +kernel, by decide +kernel⟩
theorem w8eq44 : w844 = (words3 [4, 4]).map fun q => (cod q.1, q.2 ^ 8) := by decide +kernel

theorem fast44 : allF (leafF tb44 du44 w844 14 1125891317039103) 9 [([97], 4), ([98], 4)] [] [([], 1)] = true := by decide +kernel
theorem all44 : allB (goodB (words3 [4, 4]) (-1125891317039103)) 9 (rows3 [4, 4]) [] = true := allF_eq (fun _ _ h hb => leafF_good cls44 w8eq44 wlen44 (by decide) h hb) fast44 rfl
def tb48 : List (Nat × Nat) := [(1, 0), (2, 1), (3, 2), (5, 3), (9, 4), (13, 5), (6, 4), (10, 6), (14, 7), (7, 5), (11, 7), (21, 8), (37, 9), (25, 9), (22, 9)]
def du48 : List Nat := [1, 1, 1, 0, 1, 1, 0, 1, 0, 1]
def w848 : List (Nat × Nat) := [(1, 65536), (2, 16777216), (3, 4294967296), (5, 4294967296), (9, 1099511627776), (13, 281474976710656), (6, 1099511627776), (10, 281474976710656), (14, 72057594037927936), (7, 281474976710656), (11, 72057594037927936), (21, 281474976710656), (37, 72057594037927936), (25, 72057594037927936), (22, 72057594037927936)]
theorem cls48 : Cls (words3 [4, 8, 16]) tb48 du48 := ⟨by decide +kernel, by decide +kernel, by decide +kernel⟩
theorem w8eq48 : w848 = (words3 [4, 8, 16]).map fun q => (cod q.1, q.2 ^ 8) := by decide +kernel

theorem fs48_2 : allF (leafF tb48 du48 w848 15 72057594054770687) 7 [([99], 16), ([98, 97], 32), ([98, 97, 97], 128), ([99, 97], 64), ([99, 98], 128)] [([97], 4), ([98], 8)] [([], 1), ([66], 8), ([66, 66], 64), ([65], 4), ([65, 66], 32), ([65, 65], 16), ([65, 65, 66], 128), ([65, 65, 65], 64)] = true := by decide +kernel
theorem fs48_3 : allF (leafF tb48 du48 w848 15 72057594054770687) 7 [([98], 8), ([98, 97], 32), ([98, 97, 97], 128), ([99, 97], 64), ([98, 99], 128)] [([97], 4), ([99], 16)] [([], 1), ([67], 16), ([65], 4), ([65, 67], 64), ([65, 65], 16), ([65, 65, 65], 64)] = true := by decide +kernel
theorem fs48_4 : allF (leafF tb48 du48 w848 15 72057594054770687) 7 [([98], 8), ([99], 16), ([98, 97, 97], 128), ([99, 97], 64)] [([97], 4), ([98, 97], 32)] [([], 1), ([66, 97], 32), ([65], 4), ([65, 66, 97], 128), ([65, 65], 16), ([65, 65, 65], 64)] = true := by decide +kernel
theorem fs48_5 : allF (leafF tb48 du48 w848 15 72057594054770687) 7 [([98], 8), ([99], 16), ([98, 97], 32), ([99, 97], 64)] [([97], 4), ([98, 97, 97], 128)] [([], 1), ([66, 97, 97], 128), ([65], 4), ([65, 65], 16), ([65, 65, 65], 64)] = true := by decide +kernel
theorem fs48_6 : allF (leafF tb48 du48 w848 15 72057594054770687) 7 [([98], 8), ([99], 16), ([98, 97], 32), ([98, 97, 97], 128)] [([97], 4), ([99, 97], 64)] [([], 1), ([67, 97], 64), ([65], 4), ([65, 65], 16), ([65, 65, 65], 64)] = true := by decide +kernel
theorem fs48_1 : allF (leafF tb48 du48 w848 15 72057594054770687) 8 [([98], 8), ([99], 16), ([98, 97], 32), ([98, 97, 97], 128), ([99, 97], 64)] [([97], 4)] [([], 1), ([65], 4), ([65, 65], 16), ([65, 65, 65], 64)] = true := allF_step [([([99], 16), ([98, 97], 32), ([98, 97, 97], 128), ([99, 97], 64), ([99, 98], 128)], ([98], 8), [([], 1), ([66], 8), ([66, 66], 64), ([65], 4), ([65, 66], 32), ([65, 65], 16), ([65, 65, 66], 128), ([65, 65, 65], 64)]), ([([98], 8), ([98, 97], 32), ([98, 97, 97], 128), ([99, 97], 64), ([98, 99], 128)], ([99], 16), [([], 1), ([67], 16), ([65], 4), ([65, 67], 64), ([65, 65], 16), ([65, 65, 65], 64)]), ([([98], 8), ([99], 16), ([98, 97, 97], 128), ([99, 97], 64)], ([98, 97], 32), [([], 1), ([66, 97], 32), ([65], 4), ([65, 66, 97], 128), ([65, 65], 16), ([65, 65, 65], 64)]), ([([98], 8), ([99], 16), ([98, 97], 32), ([99, 97], 64)], ([98, 97, 97], 128), [([], 1), ([66, 97, 97], 128), ([65], 4), ([65, 65], 16), ([65, 65, 65], 64)]), ([([98], 8), ([99], 16), ([98, 97], 32), ([98, 97, 97], 128)], ([99, 97], 64), [([], 1), ([67, 97], 64), ([65], 4), ([65, 65], 16), ([65, 65, 65], 64)])] rfl (by rfl) (List.forall_mem_cons.mpr ⟨fs48_2, List.forall_mem_cons.mpr ⟨fs48_3, List.forall_mem_cons.mpr ⟨fs48_4, List.forall_mem_cons.mpr ⟨fs48_5, List.forall_mem_cons.mpr ⟨fs48_6, List.forall_mem_nil _⟩⟩⟩⟩⟩)
theorem fs48_8 : allF (leafF tb48 du48 w848 15 72057594054770687) 7 [([99], 16), ([97, 98], 32), ([99, 98], 128), ([99, 97], 64), ([97, 98, 97], 128)] [([98], 8), ([97], 4)] [([], 1), ([65], 4), ([65, 65], 16), ([65, 65, 65], 64), ([66], 8), ([66, 65], 32), ([66, 65, 65], 128), ([66, 66], 64)] = true := by decide +kernel
theorem fs48_9 : allF (leafF tb48 du48 w848 15 72057594054770687) 7 [([97], 4), ([97, 98], 32), ([99, 98], 128), ([97, 99], 64)] [([98], 8), ([99], 16)] [([], 1), ([67], 16), ([66], 8), ([66, 67], 128), ([66, 66], 64)] = true := by decide +kernel
theorem fs48_10 : allF (leafF tb48 du48 w848 15 72057594054770687) 7 [([97], 4), ([99], 16), ([99, 98], 128), ([97, 97, 98], 128)] [([98], 8), ([97, 98], 32)] [([], 1), ([65, 98], 32), ([66], 8), ([66, 66], 64)] = true := by decide +kernel
theorem fs48_11 : allF (leafF tb48 du48 w848 15 72057594054770687) 7 [([97], 4), ([99], 16), ([97, 98], 32)] [([98], 8), ([99, 98], 128)] [([], 1), ([67, 98], 128), ([66], 8), ([66, 66], 64)] = true := by decide +kernel
theorem fs48_7 : allF (leafF tb48 du48 w848 15 72057594054770687) 8 [([97], 4), ([99], 16), ([97, 98], 32), ([99, 98], 128)] [([98], 8)] [([], 1), ([66], 8), ([66, 66], 64)] = true := allF_step [([([99], 16), ([97, 98], 32), ([99, 98], 128), ([99, 97], 64), ([97, 98, 97], 128)], ([97], 4), [([], 1), ([65], 4), ([65, 65], 16), ([65, 65, 65], 64), ([66], 8), ([66, 65], 32), ([66, 65, 65], 128), ([66, 66], 64)]), ([([97], 4), ([97, 98], 32), ([99, 98], 128), ([97, 99], 64)], ([99], 16), [([], 1), ([67], 16), ([66], 8), ([66, 67], 128), ([66, 66], 64)]), ([([97], 4), ([99], 16), ([99, 98], 128), ([97, 97, 98], 128)], ([97, 98], 32), [([], 1), ([65, 98], 32), ([66], 8), ([66, 66], 64)]), ([([97], 4), ([99], 16), ([97, 98], 32)], ([99, 98], 128), [([], 1), ([67, 98], 128), ([66], 8), ([66, 66], 64)])] rfl (by rfl) (List.forall_mem_cons.mpr ⟨fs48_8, List.forall_mem_cons.mpr ⟨fs48_9, List.forall_mem_cons.mpr ⟨fs48_10, List.forall_mem_cons.mpr ⟨fs48_11, List.forall_mem_nil _⟩⟩⟩⟩)
theorem fs48_13 : allF (leafF tb48 du48 w848 15 72057594054770687) 7 [([98], 8), ([97, 99], 64), ([98, 99], 128), ([98, 97], 32), ([98, 97, 97], 128)] [([99], 16), ([97], 4)] [([], 1), ([65], 4), ([65, 65], 16), ([65, 65, 65], 64), ([67], 16), ([67, 65], 64)] = true := by decide +kernel
theorem fs48_14 : allF (leafF tb48 du48 w848 15 72057594054770687) 7 [([97], 4), ([97, 99], 64), ([98, 99], 128), ([97, 98], 32)] [([99], 16), ([98], 8)] [([], 1), ([66], 8), ([66, 66], 64), ([67], 16), ([67, 66], 128)] = true := by decide +kernel
theorem fs48_15 : allF (leafF tb48 du48 w848 15 72057594054770687) 7 [([97], 4), ([98], 8), ([98, 99], 128)] [([99], 16), ([97, 99], 64)] [([], 1), ([65, 99], 64), ([67], 16)] = true := by decide +kernel
theorem fs48_16 : allF (leafF tb48 du48 w848 15 72057594054770687) 7 [([97], 4), ([98], 8), ([97, 99], 64)] [([99], 16), ([98, 99], 128)] [([], 1), ([66, 99], 128), ([67], 16)] = true := by decide +kernel
theorem fs48_12 : allF (leafF tb48 du48 w848 15 72057594054770687) 8 [([97], 4), ([98], 8), ([97, 99], 64), ([98, 99], 128)] [([99], 16)] [([], 1), ([67], 16)] = true := allF_step [([([98], 8), ([97, 99], 64), ([98, 99], 128), ([98, 97], 32), ([98, 97, 97], 128)], ([97], 4), [([], 1), ([65], 4), ([65, 65], 16), ([65, 65, 65], 64), ([67], 16), ([67, 65], 64)]), ([([97], 4), ([97, 99], 64), ([98, 99], 128), ([97, 98], 32)], ([98], 8), [([], 1), ([66], 8), ([66, 66], 64), ([67], 16), ([67, 66], 128)]), ([([97], 4), ([98], 8), ([98, 99], 128)], ([97, 99], 64), [([], 1), ([65, 99], 64), ([67], 16)]), ([([97], 4), ([98], 8), ([97, 99], 64)], ([98, 99], 128), [([], 1), ([66, 99], 128), ([67], 16)])] rfl (by rfl) (List.forall_mem_cons.mpr ⟨fs48_13, List.forall_mem_cons.mpr ⟨fs48_14, List.forall_mem_cons.mpr ⟨fs48_15, List.forall_mem_cons.mpr ⟨fs48_16, List.forall_mem_nil _⟩⟩⟩⟩)
theorem fast48 : allF (leafF tb48 du48 w848 15 72057594054770687) 9 [([97], 4), ([98], 8), ([99], 16)] [] [([], 1)] = true := allF_step [([([98], 8), ([99], 16), ([98, 97], 32), ([98, 97, 97], 128), ([99, 97], 64)], ([97], 4), [([], 1), ([65], 4), ([65, 65], 16), ([65, 65, 65], 64)]), ([([97], 4), ([99], 16), ([97, 98], 32), ([99, 98], 128)], ([98], 8), [([], 1), ([66], 8), ([66, 66], 64)]), ([([97], 4), ([98], 8), ([97, 99], 64), ([98, 99], 128)], ([99], 16), [([], 1), ([67], 16)])] rfl (by rfl) (List.forall_mem_cons.mpr ⟨fs48_1, List.forall_mem_cons.mpr ⟨fs48_7, List.forall_mem_cons.mpr ⟨fs48_12, List.forall_mem_nil _⟩⟩⟩)
theorem all48 : allB (goodB (words3 [4, 8, 16]) (-72057594054770687)) 9 (rows3 [4, 8, 16]) [] = true := allF_eq (fun _ _ h hb => leafF_good cls48 w8eq48 wlen48 (by decide) h hb) fast48 rfl
def tb28 : List (Nat × Nat) := [(1, 0), (2, 1), (5, 2), (9, 3), (6, 3), (10, 4), (21, 5), (37, 6), (25, 6), (41, 7), (22, 6), (38, 7), (26, 7), (85, 8), (149, 9), (101, 9), (89, 9), (86, 9), (341, 10), (597, 11), (405, 11), (357, 11), (345, 11), (342, 11), (1365, 12), (5461, 13)]
def du28 : List Nat := [1, 1, 0, 1, 0, 0, 1, 1, 0, 1, 0, 1, 0, 0]
def w828 : List (Nat × Nat) := [(1, 256), (2, 16777216), (5, 65536), (9, 4294967296), (6, 4294967296), (10, 281474976710656), (21, 16777216), (37, 1099511627776), (25, 1099511627776), (41, 72057594037927936), (22, 1099511627776), (38, 72057594037927936), (26, 72057594037927936), (85, 4294967296), (149, 281474976710656), (101, 281474976710656), (89, 281474976710656), (86, 281474976710656), (341, 1099511627776), (597, 72057594037927936), (405, 72057594037927936), (357, 72057594037927936), (345, 72057594037927936), (342, 72057594037927936), (1365, 281474976710656), (5461, 72057594037927936)]
theorem cls28 : Cls (words3 [2, 8]) tb28 du28 := ⟨by decide +kernel, by decide +kernel, by decide +kernel⟩
theorem w8eq28 : w828 = (words3 [2, 8]).map fun q => (cod q.1, q.2 ^ 8) := by decide +kernel

theorem fs28_2 : allF (leafF tb28 du28 w828 26 215612026922139903) 7 [([98, 97], 16), ([98, 97, 97], 32), ([98, 97, 97, 97], 64), ([98, 97, 97, 97, 97], 128), ([98, 97, 98], 128)] [([97], 2), ([98], 8)] [([], 1), ([66], 8), ([66, 66], 64), ([65], 2), ([65, 66], 16), ([65, 66, 66], 128), ([65, 65], 4), ([65, 65, 66], 32), ([65, 65, 65], 8), ([65, 65, 65, 66], 64), ([65, 65, 65, 65], 16), ([65, 65, 65, 65, 66], 128), ([65, 65, 65, 65, 65], 32), ([65, 65, 65, 65, 65, 65], 64), ([65, 65, 65, 65, 65, 65, 65], 128)] = true := by decide +kernel
theorem fs28_3 : allF (leafF tb28 du28 w828 26 215612026922139903) 7 [([98], 8), ([98, 97, 97], 32), ([98, 97, 97, 97], 64), ([98, 97, 97, 97, 97], 128), ([98, 98, 97], 128)] [([97], 2), ([98, 97], 16)] [([], 1), ([66, 97], 16), ([65], 2), ([65, 66, 97], 32), ([65, 65], 4), ([65, 65, 66, 97], 64), ([65, 65, 65], 8), ([65, 65, 65, 66, 97], 128), ([65, 65, 65, 65], 16), ([65, 65, 65, 65, 65], 32), ([65, 65, 65, 65, 65, 65], 64), ([65, 65, 65, 65, 65, 65, 65], 128)] = true := by decide +kernel
theorem fs28_4 : allF (leafF tb28 du28 w828 26 215612026922139903) 7 [([98], 8), ([98, 97], 16), ([98, 97, 97, 97], 64), ([98, 97, 97, 97, 97], 128)] [([97], 2), ([98, 97, 97], 32)] [([], 1), ([66, 97, 97], 32), ([65], 2), ([65, 66, 97, 97], 64), ([65, 65], 4), ([65, 65, 66, 97, 97], 128), ([65, 65, 65], 8), ([65, 65, 65, 65], 16), ([65, 65, 65, 65, 65], 32), ([65, 65, 65, 65, 65, 65], 64), ([65, 65, 65, 65, 65, 65, 65], 128)] = true := by decide +kernel
theorem fs28_5 : allF (leafF tb28 du28 w828 26 215612026922139903) 7 [([98], 8), ([98, 97], 16), ([98, 97, 97], 32), ([98, 97, 97, 97, 97], 128)] [([97], 2), ([98, 97, 97, 97], 64)] [([], 1), ([66, 97, 97, 97], 64), ([65], 2), ([65, 66, 97, 97, 97], 128), ([65, 65], 4), ([65, 65, 65], 8), ([65, 65, 65, 65], 16), ([65, 65, 65, 65, 65], 32), ([65, 65, 65, 65, 65, 65], 64), ([65, 65, 65, 65, 65, 65, 65], 128)] = true := by decide +kernel
theorem fs28_6 : allF (leafF tb28 du28 w828 26 215612026922139903) 7 [([98], 8), ([98, 97], 16), ([98, 97, 97], 32), ([98, 97, 97, 97], 64)] [([97], 2), ([98, 97, 97, 97, 97], 128)] [([], 1), ([66, 97, 97, 97, 97], 128), ([65], 2), ([65, 65], 4), ([65, 65, 65], 8), ([65, 65, 65, 65], 16), ([65, 65, 65, 65, 65], 32), ([65, 65, 65, 65, 65, 65], 64), ([65, 65, 65, 65, 65, 65, 65], 128)] = true := by decide +kernel
theorem fs28_1 : allF (leafF tb28 du28 w828 26 215612026922139903) 8 [([98], 8), ([98, 97], 16), ([98, 97, 97], 32), ([98, 97, 97, 97], 64), ([98, 97, 97, 97, 97], 128)] [([97], 2)] [([], 1), ([65], 2), ([65, 65], 4), ([65, 65, 65], 8), ([65, 65, 65, 65], 16), ([65, 65, 65, 65, 65], 32), ([65, 65, 65, 65, 65, 65], 64), ([65, 65, 65, 65, 65, 65, 65], 128)] = true := allF_step [([([98, 97], 16), ([98, 97, 97], 32), ([98, 97, 97, 97], 64), ([98, 97, 97, 97, 97], 128), ([98, 97, 98], 128)], ([98], 8), [([], 1), ([66], 8), ([66, 66], 64), ([65], 2), ([65, 66], 16), ([65, 66, 66], 128), ([65, 65], 4), ([65, 65, 66], 32), ([65, 65, 65], 8), ([65, 65, 65, 66], 64), ([65, 65, 65, 65], 16), ([65, 65, 65, 65, 66], 128), ([65, 65, 65, 65, 65], 32), ([65, 65, 65, 65, 65, 65], 64), ([65, 65, 65, 65, 65, 65, 65], 128)]), ([([98], 8), ([98, 97, 97], 32), ([98, 97, 97, 97], 64), ([98, 97, 97, 97, 97], 128), ([98, 98, 97], 128)], ([98, 97], 16), [([], 1), ([66, 97], 16), ([65], 2), ([65, 66, 97], 32), ([65, 65], 4), ([65, 65, 66, 97], 64), ([65, 65, 65], 8), ([65, 65, 65, 66, 97], 128), ([65, 65, 65, 65], 16), ([65, 65, 65, 65, 65], 32), ([65, 65, 65, 65, 65, 65], 64), ([65, 65, 65, 65, 65, 65, 65], 128)]), ([([98], 8), ([98, 97], 16), ([98, 97, 97, 97], 64), ([98, 97, 97, 97, 97], 128)], ([98, 97, 97], 32), [([], 1), ([66, 97, 97], 32), ([65], 2), ([65, 66, 97, 97], 64), ([65, 65], 4), ([65, 65, 66, 97, 97], 128), ([65, 65, 65], 8), ([65, 65, 65, 65], 16), ([65, 65, 65, 65, 65], 32), ([65, 65, 65, 65, 65, 65], 64), ([65, 65, 65, 65, 65, 65, 65], 128)]), ([([98], 8), ([98, 97], 16), ([98, 97, 97], 32), ([98, 97, 97, 97, 97], 128)], ([98, 97, 97, 97], 64), [([], 1), ([66, 97, 97, 97], 64), ([65], 2), ([65, 66, 97, 97, 97], 128), ([65, 65], 4), ([65, 65, 65], 8), ([65, 65, 65, 65], 16), ([65, 65, 65, 65, 65], 32), ([65, 65, 65, 65, 65, 65], 64), ([65, 65, 65, 65, 65, 65, 65], 128)]), ([([98], 8), ([98, 97], 16), ([98, 97, 97], 32), ([98, 97, 97, 97], 64)], ([98, 97, 97, 97, 97], 128), [([], 1), ([66, 97, 97, 97, 97], 128), ([65], 2), ([65, 65], 4), ([65, 65, 65], 8), ([65, 65, 65, 65], 16), ([65, 65, 65, 65, 65], 32), ([65, 65, 65, 65, 65, 65], 64), ([65, 65, 65, 65, 65, 65, 65], 128)])] rfl (by rfl) (List.forall_mem_cons.mpr ⟨fs28_2, List.forall_mem_cons.mpr ⟨fs28_3, List.forall_mem_cons.mpr ⟨fs28_4, List.forall_mem_cons.mpr ⟨fs28_5, List.forall_mem_cons.mpr ⟨fs28_6, List.forall_mem_nil _⟩⟩⟩⟩⟩)
theorem fs28_8 : allF (leafF tb28 du28 w828 26 215612026922139903) 7 [([97, 98], 16), ([97, 98, 98], 128), ([97, 98, 97], 32), ([97, 98, 97, 97], 64), ([97, 98, 97, 97, 97], 128)] [([98], 8), ([97], 2)] [([], 1), ([65], 2), ([65, 65], 4), ([65, 65, 65], 8), ([65, 65, 65, 65], 16), ([65, 65, 65, 65, 65], 32), ([65, 65, 65, 65, 65, 65], 64), ([65, 65, 65, 65, 65, 65, 65], 128), ([66], 8), ([66, 65], 16), ([66, 65, 65], 32), ([66, 65, 65, 65], 64), ([66, 65, 65, 65, 65], 128), ([66, 66], 64), ([66, 66, 65], 128)] = true := by decide +kernel
theorem fs28_9 : allF (leafF tb28 du28 w828 26 215612026922139903) 7 [([97], 2), ([97, 98, 98], 128), ([97, 97, 98], 32)] [([98], 8), ([97, 98], 16)] [([], 1), ([65, 98], 16), ([66], 8), ([66, 65, 98], 128), ([66, 66], 64)] = true := by decide +kernel
theorem fs28_10 : allF (leafF tb28 du28 w828 26 215612026922139903) 7 [([97], 2), ([97, 98], 16)] [([98], 8), ([97, 98, 98], 128)] [([], 1), ([65, 98, 98], 128), ([66], 8), ([66, 66], 64)] = true := by decide +kernel
theorem fs28_7 : allF (leafF tb28 du28 w828 26 215612026922139903) 8 [([97], 2), ([97, 98], 16), ([97, 98, 98], 128)] [([98], 8)] [([], 1), ([66], 8), ([66, 66], 64)] = true := allF_step [([([97, 98], 16), ([97, 98, 98], 128), ([97, 98, 97], 32), ([97, 98, 97, 97], 64), ([97, 98, 97, 97, 97], 128)], ([97], 2), [([], 1), ([65], 2), ([65, 65], 4), ([65, 65, 65], 8), ([65, 65, 65, 65], 16), ([65, 65, 65, 65, 65], 32), ([65, 65, 65, 65, 65, 65], 64), ([65, 65, 65, 65, 65, 65, 65], 128), ([66], 8), ([66, 65], 16), ([66, 65, 65], 32), ([66, 65, 65, 65], 64), ([66, 65, 65, 65, 65], 128), ([66, 66], 64), ([66, 66, 65], 128)]), ([([97], 2), ([97, 98, 98], 128), ([97, 97, 98], 32)], ([97, 98], 16), [([], 1), ([65, 98], 16), ([66], 8), ([66, 65, 98], 128), ([66, 66], 64)]), ([([97], 2), ([97, 98], 16)], ([97, 98, 98], 128), [([], 1), ([65, 98, 98], 128), ([66], 8), ([66, 66], 64)])] rfl (by rfl) (List.forall_mem_cons.mpr ⟨fs28_8, List.forall_mem_cons.mpr ⟨fs28_9, List.forall_mem_cons.mpr ⟨fs28_10, List.forall_mem_nil _⟩⟩⟩)
theorem fast28 : allF (leafF tb28 du28 w828 26 215612026922139903) 9 [([97], 2), ([98], 8)] [] [([], 1)] = true := allF_step [([([98], 8), ([98, 97], 16), ([98, 97, 97], 32), ([98, 97, 97, 97], 64), ([98, 97, 97, 97, 97], 128)], ([97], 2), [([], 1), ([65], 2), ([65, 65], 4), ([65, 65, 65], 8), ([65, 65, 65, 65], 16), ([65, 65, 65, 65, 65], 32), ([65, 65, 65, 65, 65, 65], 64), ([65, 65, 65, 65, 65, 65, 65], 128)]), ([([97], 2), ([97, 98], 16), ([97, 98, 98], 128)], ([98], 8), [([], 1), ([66], 8), ([66, 66], 64)])] rfl (by rfl) (List.forall_mem_cons.mpr ⟨fs28_1, List.forall_mem_cons.mpr ⟨fs28_7, List.forall_mem_nil _⟩⟩)
theorem all28 : allB (goodB (words3 [2, 8]) (-215612026922139903)) 9 (rows3 [2, 8]) [] = true := allF_eq (fun _ _ h hb => leafF_good cls28 w8eq28 wlen28 (by decide) h hb) fast28 rfl

/-- the law's ledger, cut to what goes on -/
theorem lawN {h₀ h : Heap} {L : Addr} {pl D : Addr} {op od : Obj} {l T : List (Addr × Obj)} (N : News h₀ L h l) (h1 : (pl, op) ∈ l) (h2 : (D, od) ∈ l) (h3 : ∀ p ∈ T, p ∈ l) : News h₀ L h ((pl, op) :: (D, od) :: T) := newsSub N fun p hp => by
  rcases List.mem_cons.mp hp with rfl | hp
  · exact h1
  · rcases List.mem_cons.mp hp with rfl | hp
    · exact h2
    · exact h3 p hp
theorem lawN1 {h₀ h : Heap} {L : Addr} {a b c pl D : Addr × Obj} {T : List (Addr × Obj)} {x1 x2 x3 x4 : Addr × Obj} (N : News h₀ L h (a :: b :: c :: pl :: D :: x1 :: x2 :: x3 :: x4 :: T)) : News h₀ L h (pl :: D :: T) := newsSub N fun p hp => by
  simp only [List.mem_cons] at hp ⊢
  rcases hp with hp | hp | hp <;> simp [hp]
theorem lawN2 {h₀ h : Heap} {L : Addr} {a b c pl D : Addr × Obj} {T : List (Addr × Obj)} {x1 x2 x3 x4 : Addr × Obj} (N : News h₀ L h (a :: b :: pl :: c :: D :: x1 :: x2 :: x3 :: x4 :: T)) : News h₀ L h (pl :: D :: T) := newsSub N fun p hp => by
  simp only [List.mem_cons] at hp ⊢
  rcases hp with hp | hp | hp <;> simp [hp]
theorem lawN3 {h₀ h : Heap} {L : Addr} {a b c pl D : Addr × Obj} {T : List (Addr × Obj)} {x1 x2 x3 x4 : Addr × Obj} (N : News h₀ L h (a :: pl :: b :: c :: D :: x1 :: x2 :: x3 :: x4 :: T)) : News h₀ L h (pl :: D :: T) := newsSub N fun p hp => by
  simp only [List.mem_cons] at hp ⊢
  rcases hp with hp | hp | hp <;> simp [hp]
theorem lawZ {h₀ h : Heap} {L pl D : Addr} {op od : Obj} {T : List (Addr × Obj)} (N : News h₀ L h ((pl, op) :: (D, od) :: (48, tabObj #[]) :: T)) (c1 : op.cls = .type "list") (c2 : od.cls = .type "list") (hT : ∀ p ∈ T, p.1 ≠ 48) : pl ≠ 48 ∧ D ≠ 48 ∧ TabZ ((pl, op) :: (D, od) :: (48, tabObj #[]) :: T) := by
  have e1 : pl ≠ 48 := newsNe N (.head _) (.tail _ (.tail _ (.head _))) (by rw [c1]; intro e; cases e)
  have e2 : D ≠ 48 := newsNe N (.tail _ (.head _)) (.tail _ (.tail _ (.head _))) (by rw [c2]; intro e; cases e)
  refine ⟨e1, e2, .inl ⟨[(pl, op), (D, od)], T, rfl, fun p hp => ?_⟩⟩
  simp only [List.mem_append, List.mem_cons, List.not_mem_nil, or_false] at hp
  rcases hp with (rfl | rfl) | hp
  · exact e1
  · exact e2
  · exact hT p hp
theorem law48 {x y : Addr × Obj} (h1 : @Ne Nat x.1 48) (h2 : @Ne Nat y.1 48) : ∀ p ∈ [x, y], p.1 ≠ 48 := by
  intro p hp
  simp only [List.mem_cons, List.not_mem_nil, or_false] at hp
  rcases hp with rfl | rfl
  · exact h1
  · exact h2
/-- after the striking: the prices and the two tables (in either order) ahead of the rest -/
theorem lawS {h₀ h : Heap} {L pl D : Addr} {op od : Obj} {T l : List (Addr × Obj)} (N : News h₀ L h l) (hpl : pl ≠ 48) (h83 : (83, tabObj #[]) ∈ T) (h76 : (76, tabObj #[]) ∈ T) (hs : ∀ p ∈ (pl, op) :: (D, od) :: (48, tabObj #[]) :: T, p.1 ≠ 48 → p ∈ l) : (pl, op) ∈ l ∧ (83, tabObj #[]) ∈ l ∧ (76, tabObj #[]) ∈ l :=
  ⟨hs _ (.head _) hpl, hs _ (.tail _ (.tail _ (.tail _ h83))) (show @Ne Nat 83 48 by decide), hs _ (.tail _ (.tail _ (.tail _ h76))) (show @Ne Nat 76 48 by decide)⟩
theorem news1 {h₀ h : Heap} {L : Addr} {p : Addr × Obj} {l : List (Addr × Obj)} (N : News h₀ L h l) (h1 : p ∈ l) : News h₀ L h (p :: l) := newsSub N fun q hq => by
  rcases List.mem_cons.mp hq with rfl | hq
  · exact h1
  · exact hq
theorem PickTab.mono {a : Addr} {n : Nat} {rows : List PickRow} {A B : List (Addr × Obj)} (h : PickTab a n rows A) (hs : ∀ p ∈ A, p ∈ B) : PickTab a n rows B := ⟨hs _ h.list, fun r hr => hs _ (h.objs r hr)⟩
theorem newsTail {h₀ h : Heap} {L : Addr} {p : Addr × Obj} {l : List (Addr × Obj)} (_ : News h₀ L h (p :: l)) : ∀ q ∈ l, q ∈ p :: l := fun _ hq => .tail _ hq
theorem ne_intEq {prog : Program} {w : World} {A : Around} {E : Value → Shared → Prop} {s : Shared} {a b : Int} {t u : Tok} {Q : Value → Shared → Prop} (e : a = b) (h : Q (.bool false) s) : wpAny (model prog w) A (compareOp .NotEq (.int a t) (.int b u)) Q E s := by
  subst e
  refine PyProof.Rows.ne_int ?_
  rw [bne_self_eq_false]
  exact h
theorem compEnd3 {h₀ : Heap} {L I C D : Addr} {m : Str → Option Value} {s₁ : Shared} {oI oC oD : Obj} {S : List (Addr × Obj) → Prop} {rest : Value → List (Addr × Obj) → Prop} {y : Value} {h' : Heap} {tk : Nat} {keep : List (Addr × Obj)}
    (F : Fr h₀ L h' m) (N : News h₀ L h' ((I, oI) :: (C, oC) :: (D, oD) :: keep)) (off : LCg.Off3 I C D keep) (hS : S keep) (r : rest y keep) :
    LCg.CompEnd h₀ L m s₁ I oI C oC D oD S rest y { s₁ with heap := h', toks := tk } := LCg.CompEnd.intro F N keep (fun _ hp => hp) off hS r
theorem rows_k {rows : List Row} {fs : List PRow} (h : rows.map (fun r => (r.k, r.v)) = fs.map fun q => (q.1, st q.1)) : rows.map (fun r => r.k) = fs.map fun q => q.1 := by
  have e := congrArg (fun l => l.map fun z : List Nat × Str => z.1) h
  simp only [List.map_map] at e
  exact e
theorem rows_v {rows : List Row} {fs : List PRow} (h : rows.map (fun r => (r.k, r.v)) = fs.map fun q => (q.1, st q.1)) : ∀ r ∈ rows, r.v = st r.k := by
  intro r hr
  have hm : (r.k, r.v) ∈ fs.map fun q => (q.1, st q.1) := h ▸ List.mem_map_of_mem (f := fun r : Row => (r.k, r.v)) hr
  obtain ⟨q, _, e⟩ := List.mem_map.mp hm
  have e1 : q.1 = r.k := congrArg Prod.fst e
  have e2 : st q.1 = r.v := congrArg Prod.snd e
  rw [← e2, e1]
theorem has48_tab {l : List (Addr × Obj)} (h : Has48 l) : ∃ ps, (48, tabObj ps) ∈ l := by
  rcases h with h | ⟨c, oc, h, _⟩
  · exact ⟨_, h⟩
  · exact ⟨_, h⟩
theorem law76 {ps : Array Value} : ∀ p ∈ [((48, tabObj ps) : Addr × Obj)], p.1 ≠ 76 := by
  intro p hp
  rw [List.mem_singleton.mp hp]
  show @Ne Nat 48 76
  decide
theorem law83 {ps : Array Value} : ∀ p ∈ [((48, tabObj ps) : Addr × Obj)], p.1 ≠ 83 := by
  intro p hp
  rw [List.mem_singleton.mp hp]
  show @Ne Nat 48 83
  decide
theorem news3 {h₀ h : Heap} {L : Addr} {a b c : Addr × Obj} {l : List (Addr × Obj)} (N : News h₀ L h l) (h1 : a ∈ l) (h2 : b ∈ l) (h3 : c ∈ l) : News h₀ L h [a, b, c] := newsSub N fun q hq => by
  simp only [List.mem_cons, List.not_mem_nil, or_false] at hq
  rcases hq with rfl | rfl | rfl
  · exact h1
  · exact h2
  · exact h3
theorem news4 {h₀ h : Heap} {L : Addr} {a b c d : Addr × Obj} {l : List (Addr × Obj)} (N : News h₀ L h l) (h1 : a ∈ l) (h2 : b ∈ l) (h3 : c ∈ l) (h4 : d ∈ l) : News h₀ L h [a, b, c, d] := newsSub N fun q hq => by
  simp only [List.mem_cons, List.not_mem_nil, or_false] at hq
  rcases hq with rfl | rfl | rfl | rfl
  · exact h1
  · exact h2
  · exact h3
  · exact h4
theorem newsTail2 {h₀ h : Heap} {L : Addr} {a b c : Addr × Obj} {l : List (Addr × Obj)} (_ : News h₀ L h (a :: b :: c :: l)) : ∀ q ∈ l, q ∈ a :: b :: c :: l := fun _ hq => .tail _ (.tail _ (.tail _ hq))
theorem idm_at44 {w p loose mean mg mb} {rest : List (Addr × Obj)} {t u : Tok} (h76 : ∀ p ∈ rest, p.1 ≠ 76) (h83 : ∀ p ∈ rest, p.1 ≠ 83) :
    ConD w p loose mean mg mb 8 80 102 [.int 9671332769940738559442944 t, .int 18446744073709551616 u] [] ((76, tabObj #[]) :: (83, tabObj #[]) :: rest)
      (fun r nOut => ∃ T q t1 t2 ps1 ps2, r = .ref T ∧ (T, pairObj (.int q t1) (.int 0 t2)) ∈ nOut ∧ (76, tabObj ps1) ∈ nOut ∧ (83, tabObj ps2) ∈ nOut ∧ ∀ p ∈ rest, p ∈ nOut) :=
  idm_con (hi := 262142) (lo := 0) (eq_false (by decide +kernel)) (by decide +kernel) (by decide +kernel) (by decide +kernel) (by decide +kernel) (by decide +kernel) (by decide +kernel) (by decide +kernel) (by decide +kernel) (by decide +kernel) (by decide +kernel) (by decide +kernel) (by decide +kernel) (by decide +kernel) h76 h83
theorem idm_at48 {w p loose mean mg mb} {rest : List (Addr × Obj)} {t u : Tok} (h76 : ∀ p ∈ rest, p.1 ≠ 76) (h83 : ∀ p ∈ rest, p.1 ≠ 83) :
    ConD w p loose mean mg mb 8 80 102 [.int 1329248278814703192403018643801112576 t, .int 18446744073709551616 u] [] ((76, tabObj #[]) :: (83, tabObj #[]) :: rest)
      (fun r nOut => ∃ T q t1 t2 ps1 ps2, r = .ref T ∧ (T, pairObj (.int q t1) (.int 0 t2)) ∈ nOut ∧ (76, tabObj ps1) ∈ nOut ∧ (83, tabObj ps2) ∈ nOut ∧ ∀ p ∈ rest, p ∈ nOut) :=
  idm_con (hi := 36029346791587968) (lo := 0) (eq_false (by decide +kernel)) (by decide +kernel) (by decide +kernel) (by decide +kernel) (by decide +kernel) (by decide +kernel) (by decide +kernel) (by decide +kernel) (by decide +kernel) (by decide +kernel) (by decide +kernel) (by decide +kernel) (by decide +kernel) (by decide +kernel) h76 h83
theorem idm_at28 {w p loose mean mg mb} {rest : List (Addr × Obj)} {t u : Tok} (h76 : ∀ p ∈ rest, p.1 ≠ 76) (h83 : ∀ p ∈ rest, p.1 ≠ 83) :
    ConD w p loose mean mg mb 8 80 102 [.int 60689390270576797854290038226944 t, .int 18446744073709551616 u] [] ((76, tabObj #[]) :: (83, tabObj #[]) :: rest)
      (fun r nOut => ∃ T q t1 t2 ps1 ps2, r = .ref T ∧ (T, pairObj (.int q t1) (.int 0 t2)) ∈ nOut ∧ (76, tabObj ps1) ∈ nOut ∧ (83, tabObj ps2) ∈ nOut ∧ ∀ p ∈ rest, p ∈ nOut) :=
  idm_con (hi := 1644989219454) (lo := 18446744073709551616) (eq_false (by decide +kernel)) (by decide +kernel) (by decide +kernel) (by decide +kernel) (by decide +kernel) (by decide +kernel) (by decide +kernel) (by decide +kernel) (by decide +kernel) (by decide +kernel) (by decide +kernel) (by decide +kernel) (by decide +kernel) (by decide +kernel) h76 h83

end
theorem kw_off : True := by
  k_with_none
  exact True.intro
theorem kw60 : True := by
  k_with "call builtin:len" => (k_here; (with_reducible show wpAny _ _ (call (Value.builtin "len") [Value.ref _]) _ _ _); k_dflt (refine lenM (by k_asm) (by k_mem) (by assumption) ?_); intro _ _; (try dsimp only))
  exact True.intro
theorem kw61 : True := by
  k_with "mine m" => first | assumption | exact List.mem_cons_self | (refine List.mem_cons_of_mem _ ?_; k_extra "mine m")
  exact True.intro
theorem kw62 : True := by
  k_with "mine sub" => (intro p hp; k_extra "mine m")
  exact True.intro
theorem kw63 : True := by
  k_with "mine subs" => first | exact List.forall_mem_nil _ | k_extra "mine sub" | (refine subCons ?_ ?_; k_extra "mine m"; k_extra "mine subs")
  exact True.intro
theorem kw64 : True := by
  k_with "callWith ref" => (k_here; k_dflt (refine callWith_K (by k_asm) (by k_is) ?_; k_whole))
  exact True.intro
theorem kw65 : True := by
  k_with "call ref" => (k_here; (with_reducible show wpAny _ _ (call (Value.ref 280) _ _) _ _ _); with_reducible refine halt ?_)
  exact True.intro
theorem kw66 : True := by
  k_with "call ref" => (k_here; (with_reducible show wpAny _ _ (call (Value.ref 287) _ _) _ _ _); with_reducible refine halt ?_)
  exact True.intro
theorem kw67 : True := by
  k_with "call ref" => (k_here; (with_reducible show wpAny _ _ (call (Value.ref 292) _ _) _ _ _); with_reducible refine halt ?_)
  exact True.intro
theorem kw68 : True := by
  k_with "call ref" => (k_here; (with_reducible show wpAny _ _ (call (Value.ref 297) _ _) _ _ _); with_reducible refine halt ?_)
  exact True.intro
theorem kw69 : True := by
  k_with "call ref" => (k_here; (with_reducible show wpAny _ _ (call (Value.ref 302) _ _) _ _ _); with_reducible refine halt ?_)
  exact True.intro
theorem kw70 : True := by
  k_with "call ref" => (k_here; (with_reducible show wpAny _ _ (call (Value.ref 102) _ _) _ _ _); with_reducible refine halt ?_)
  exact True.intro
theorem kw71 : True := by
  k_with "compareOp NotEq int int" => (k_here; (with_reducible show wpAny _ _ (compareOp CmpOp.NotEq (Value.int _ _) (Value.int _ _)) _ _ _); with_reducible refine halt ?_)
  exact True.intro
theorem kw72 : True := by
  k_with "CompEnd" => ((with_reducible rename News _ _ _ _ => lN'); (with_reducible rename Fr _ _ _ _ => lF'); refine compEnd3 lF' lN' (by assumption) (by lcg_src) ?_)
  exact True.intro

theorem law_walk : PySem.Challenge.rw_to0080_01.Holds := by
  refine hd ?_
  k_go0
  all_goals try k_fold
  iterate 42 (first | (k_unfold; (try dsimp only)) | walk1 | (dsimp only; walk1) | (leave1; try dsimp only))
  rename Fr _ _ _ _ => F5
  rename News _ _ _ _ => N5
  refine' kba_turn (value' := .Name (Str.ofString "draws") ⟨0, 0, 0, 0⟩) (fun _ => rfl) ?_
  refine' kmk_slice_ints (ns := [3, 1, 2, 5, 0, 4, 6, 0]) F5 N5 (N5.isList (.head _)) (.int _ _) .none ?hi (kmk_from ?hi2 ?h0) rfl ?h ?hs ?ht ?hz
  case hi => repeat' constructor
  case hi2 => repeat' constructor
  case h0 => exact Int.natCast_nonneg _
  case hs => with_unfolding_all rfl
  case ht => intro _; rfl
  case hz => exact Nat.le_of_ble_eq_true rfl
  intro D5 ws5 h5 F6 N6 l5 hI5 hc5 hl5
  clear F5 N5
  iterate 2 (with_reducible rename Heap.IsList _ _ _ => zL; clear zL)
  dsimp only
  k_steps
  · refine Halt.mk ?_
    rename News _ _ _ _ => N1
    rename Fr _ _ _ _ => F1
    with_reducible rename IntsAre _ (List.map _ _) => hI1
    obtain ⟨ds, hds, hdl, hdr⟩ := draws_of hI1 (draw_len _)
    subst hds
    with_reducible rename Heap.IsList _ _ _ => zL
    clear zL
    have N2 := lawN1 N1
    clear N1
    obtain ⟨hp48, hd48, hZ⟩ := lawZ N2 rfl rfl (law48 (by decide) (by decide))
    refine ConD.use (struck_con (good := goodB (words3 [4, 4]) (-1125891317039103)) (ps := [(4, _), (4, _)]) (ds := ds) hZ ?hps (Nat.le_of_ble_eq_true rfl) all44 hd48 hdl hdr (.head _) (.tail _ (.head _))) (by k_asm) F1 (by k_asm) N2 (by k_asm) (by first | exact rfl | assumption) (by ktr_room) (by ktr_units) ?_
    case hps => simp
    intro v5 nOut5 h5' tk5 dr5 hpost5 F5 N5
    clear F1 N2
    obtain ⟨a5, n5, picks, rfl, hPT, hgood, h48, hsub5⟩ := hpost5
    obtain ⟨hm1, hm2, hm3⟩ := lawS N5 hp48 (by first | exact .head _ | exact .tail _ (.head _)) (by first | exact .head _ | exact .tail _ (.head _)) hsub5
    obtain ⟨g1, g2, g3', fin, g4, g5, g6, g7⟩ := goodB_fin hgood
    have g3 := And.intro g3' True.intro
    clear g3' hgood
    (try dsimp only)
    k_steps
    refine Halt.mk ?_
    rename News _ _ _ _ => N5
    refine ConD.use (words_con (ps := [(4, _), (4, _)]) hm1 ?hps2 (Nat.le_of_ble_eq_true rfl) words44) (by k_asm) (by k_asm) (by k_asm) N5 (by k_asm) (by first | exact rfl | assumption) (by ktr_room) (by ktr_units) ?_
    case hps2 => simp
    intro v6 nOut6 h6' tk6 dr6 hpost6 F6 N6
    clear N5
    obtain ⟨a6, n6, ws, rfl, hWT, hwp, hsub6⟩ := hpost6
    (try dsimp only)
    k_steps
    refine Halt.mk ?_
    rename News _ _ _ _ => N6
    refine ConD.use (book_con (PickTab.mono hPT hsub6) g4 (fun r hr => g1 r.plain (List.mem_map_of_mem hr)) (by rw [List.length_map] at g2; exact g2) g5) (by k_asm) (by k_asm) (by k_asm) N6 (by k_asm) (by first | exact rfl | assumption) (by ktr_room) (by ktr_units) ?_
    intro v7 nOut7 h7' tk7 dr7 hpost7 F7 N7
    clear N6
    obtain ⟨x7, d7, l7, n7, rows, rfl, hTab, hsub7, hrows⟩ := hpost7
    have hrl : rows.length = 14 := by
      have e := congrArg List.length hrows
      rw [List.length_map, List.length_map, g6, wlen44] at e
      exact e
    have hwl : ws.length = 14 := by rw [← wlen44, ← hwp, List.length_map]
    have hsz7 : (rows.map Row.ref).toArray.size ≤ sizeLine := by
      rw [sizeLine_eq]
      simp
      omega
    have hsz6 : (ws.map PickRow.ref).toArray.size ≤ sizeLine := by
      rw [sizeLine_eq]
      simp
      omega
    have N8 := news1 N7 (hsub7 _ (hsub6 _ hm1))
    have hs8 := newsTail N8
    clear N7
    obtain ⟨hin, ⟨tkh, hdi⟩, hli, hro, hok⟩ := Tab.mono hTab hs8
    have hwm := hs8 _ (hsub7 _ hWT.list)
    (try dsimp only)
    k_steps
    refine Halt.mk ?_
    refine ne_intEq ?elen ?_
    case elen => simp [hrl, hwl]
    k_steps
    refine Halt.mk ?_
    rename News _ _ _ _ => N9
    clear hin hdi hli hro hwm
    refine ConD.use (ring_con (PickTab.mono (PickTab.mono hWT hsub7) hs8) (PickTab.mono (PickTab.mono (PickTab.mono hPT hsub6) hsub7) hs8) (by rw [hwp]; exact g3.1) (by omega) (by rw [List.length_map] at g2; exact g2) (fun r hr => (wall_of wall44 hwp r hr).1.short)) (by k_asm) (by k_asm) (by k_asm) N9 (by k_asm) (by first | exact rfl | assumption) (by ktr_room) (by ktr_units) ?_
    intro v10 nOut10 h10' tk10 dr10 hpost10 F10 N10
    clear N9
    obtain ⟨rfl, hsub10⟩ := hpost10
    have N11 := news1 N10 (hsub10 _ (.head _))
    clear N10
    (try dsimp only)
    k_steps
    refine Halt.mk ?_
    rename News _ _ _ _ => N12
    rename Fr _ _ _ _ => F12
    have eb : (1 : Int) - (4 ^ Int.toNat 16 + (4 ^ Int.toNat 16 + 0)) = -8589934591 := by decide +kernel
    have ea : (1 : Int) - (4 ^ Int.toNat 8 + (4 ^ Int.toNat 8 + 0)) = -131071 := by decide +kernel
    rw [eb, ea] at F12
    have hs12 : ∀ p ∈ nOut7, p ∈ _ := fun p hp => newsTail2 N12 _ (hsub10 _ (hs8 _ hp))
    refine ConD.use (even_con (PickTab.mono (PickTab.mono hWT hsub7) hs12) (Tab.mono hTab hs12) (rows_v hrows) (by rw [rows_k hrows, hwp]; exact g7) (by omega) (wall_of wall44 hwp)) (by k_asm) F12 (by k_asm) N12 (by k_asm) (by first | exact rfl | assumption) (by ktr_room) (by ktr_units) ?_
    intro v13 nOut13 h13' tk13 dr13 hpost13 F13 N13
    clear N12 F12
    obtain ⟨⟨t13, rfl⟩, hsub13⟩ := hpost13
    (try dsimp only)
    k_steps
    refine Halt.mk ?_
    rename News _ _ _ _ => N14
    have ed : (-1125891317039103 : Int) * -8589934591 - -131071 = 9671332769940738559442944 := by decide +kernel
    have ec : (256 : Int) ^ Int.toNat 8 = 18446744073709551616 := by decide +kernel
    rw [ed, ec]
    obtain ⟨ps48, h48t⟩ := has48_tab h48
    have up : ∀ p ∈ nOut5, p ∈ nOut13 := fun p hp => hsub13 _ (hs12 _ (hsub7 _ (hsub6 _ hp)))
    have N15 := news3 N14 (up _ hm3) (up _ hm2) (up _ h48t)
    clear N14
    refine ConD.use (idm_at44 law76 law83) (by k_asm) (by k_asm) (by k_asm) N15 (by k_asm) (by first | exact rfl | assumption) (by ktr_room) (by ktr_units) ?_
    intro v16 nOut16 h16' tk16 dr16 hpost16 F16 N16
    clear N15
    obtain ⟨T16, q16, t16, t17, ps1, ps2, rfl, hT16, h76t, h83t, hrest⟩ := hpost16
    have N17 := news4 N16 hT16 h76t h83t (hrest _ (.head _))
    clear N16
    (try dsimp only)
    k_steps
  · refine Halt.mk ?_
    rename News _ _ _ _ => N1
    rename Fr _ _ _ _ => F1
    with_reducible rename IntsAre _ (List.map _ _) => hI1
    obtain ⟨ds, hds, hdl, hdr⟩ := draws_of hI1 (draw_len _)
    subst hds
    with_reducible rename Heap.IsList _ _ _ => zL
    clear zL
    have N2 := lawN2 N1
    clear N1
    obtain ⟨hp48, hd48, hZ⟩ := lawZ N2 rfl rfl (law48 (by decide) (by decide))
    refine ConD.use (struck_con (good := goodB (words3 [4, 8, 16]) (-72057594054770687)) (ps := [(4, _), (8, _), (16, _)]) (ds := ds) hZ ?hps (Nat.le_of_ble_eq_true rfl) all48 hd48 hdl hdr (.head _) (.tail _ (.head _))) (by k_asm) F1 (by k_asm) N2 (by k_asm) (by first | exact rfl | assumption) (by ktr_room) (by ktr_units) ?_
    case hps => simp
    intro v5 nOut5 h5' tk5 dr5 hpost5 F5 N5
    clear F1 N2
    obtain ⟨a5, n5, picks, rfl, hPT, hgood, h48, hsub5⟩ := hpost5
    obtain ⟨hm1, hm2, hm3⟩ := lawS N5 hp48 (by first | exact .head _ | exact .tail _ (.head _)) (by first | exact .head _ | exact .tail _ (.head _)) hsub5
    obtain ⟨g1, g2, g3', fin, g4, g5, g6, g7⟩ := goodB_fin hgood
    have g3 := And.intro g3' True.intro
    clear g3' hgood
    (try dsimp only)
    k_steps
    refine Halt.mk ?_
    rename News _ _ _ _ => N5
    refine ConD.use (words_con (ps := [(4, _), (8, _), (16, _)]) hm1 ?hps2 (Nat.le_of_ble_eq_true rfl) words48) (by k_asm) (by k_asm) (by k_asm) N5 (by k_asm) (by first | exact rfl | assumption) (by ktr_room) (by ktr_units) ?_
    case hps2 => simp
    intro v6 nOut6 h6' tk6 dr6 hpost6 F6 N6
    clear N5
    obtain ⟨a6, n6, ws, rfl, hWT, hwp, hsub6⟩ := hpost6
    (try dsimp only)
    k_steps
    refine Halt.mk ?_
    rename News _ _ _ _ => N6
    refine ConD.use (book_con (PickTab.mono hPT hsub6) g4 (fun r hr => g1 r.plain (List.mem_map_of_mem hr)) (by rw [List.length_map] at g2; exact g2) g5) (by k_asm) (by k_asm) (by k_asm) N6 (by k_asm) (by first | exact rfl | assumption) (by ktr_room) (by ktr_units) ?_
    intro v7 nOut7 h7' tk7 dr7 hpost7 F7 N7
    clear N6
    obtain ⟨x7, d7, l7, n7, rows, rfl, hTab, hsub7, hrows⟩ := hpost7
    have hrl : rows.length = 15 := by
      have e := congrArg List.length hrows
      rw [List.length_map, List.length_map, g6, wlen48] at e
      exact e
    have hwl : ws.length = 15 := by rw [← wlen48, ← hwp, List.length_map]
    have hsz7 : (rows.map Row.ref).toArray.size ≤ sizeLine := by
      rw [sizeLine_eq]
      simp
      omega
    have hsz6 : (ws.map PickRow.ref).toArray.size ≤ sizeLine := by
      rw [sizeLine_eq]
      simp
      omega
    have N8 := news1 N7 (hsub7 _ (hsub6 _ hm1))
    have hs8 := newsTail N8
    clear N7
    obtain ⟨hin, ⟨tkh, hdi⟩, hli, hro, hok⟩ := Tab.mono hTab hs8
    have hwm := hs8 _ (hsub7 _ hWT.list)
    (try dsimp only)
    k_steps
    refine Halt.mk ?_
    refine ne_intEq ?elen ?_
    case elen => simp [hrl, hwl]
    k_steps
    refine Halt.mk ?_
    rename News _ _ _ _ => N9
    clear hin hdi hli hro hwm
    refine ConD.use (ring_con (PickTab.mono (PickTab.mono hWT hsub7) hs8) (PickTab.mono (PickTab.mono (PickTab.mono hPT hsub6) hsub7) hs8) (by rw [hwp]; exact g3.1) (by omega) (by rw [List.length_map] at g2; exact g2) (fun r hr => (wall_of wall48 hwp r hr).1.short)) (by k_asm) (by k_asm) (by k_asm) N9 (by k_asm) (by first | exact rfl | assumption) (by ktr_room) (by ktr_units) ?_
    intro v10 nOut10 h10' tk10 dr10 hpost10 F10 N10
    clear N9
    obtain ⟨rfl, hsub10⟩ := hpost10
    have N11 := news1 N10 (hsub10 _ (.head _))
    clear N10
    (try dsimp only)
    k_steps
    refine Halt.mk ?_
    rename News _ _ _ _ => N12
    rename Fr _ _ _ _ => F12
    have eb : (1 : Int) - (4 ^ Int.toNat 16 + (8 ^ Int.toNat 16 + (16 ^ Int.toNat 16 + 0))) = -18447025552981229567 := by decide +kernel
    have ea : (1 : Int) - (4 ^ Int.toNat 8 + (8 ^ Int.toNat 8 + (16 ^ Int.toNat 8 + 0))) = -4311810047 := by decide +kernel
    rw [eb, ea] at F12
    have hs12 : ∀ p ∈ nOut7, p ∈ _ := fun p hp => newsTail2 N12 _ (hsub10 _ (hs8 _ hp))
    refine ConD.use (even_con (PickTab.mono (PickTab.mono hWT hsub7) hs12) (Tab.mono hTab hs12) (rows_v hrows) (by rw [rows_k hrows, hwp]; exact g7) (by omega) (wall_of wall48 hwp)) (by k_asm) F12 (by k_asm) N12 (by k_asm) (by first | exact rfl | assumption) (by ktr_room) (by ktr_units) ?_
    intro v13 nOut13 h13' tk13 dr13 hpost13 F13 N13
    clear N12 F12
    obtain ⟨⟨t13, rfl⟩, hsub13⟩ := hpost13
    (try dsimp only)
    k_steps
    refine Halt.mk ?_
    rename News _ _ _ _ => N14
    have ed : (-72057594054770687 : Int) * -18447025552981229567 - -4311810047 = 1329248278814703192403018643801112576 := by decide +kernel
    have ec : (256 : Int) ^ Int.toNat 8 = 18446744073709551616 := by decide +kernel
    rw [ed, ec]
    obtain ⟨ps48, h48t⟩ := has48_tab h48
    have up : ∀ p ∈ nOut5, p ∈ nOut13 := fun p hp => hsub13 _ (hs12 _ (hsub7 _ (hsub6 _ hp)))
    have N15 := news3 N14 (up _ hm3) (up _ hm2) (up _ h48t)
    clear N14
    refine ConD.use (idm_at48 law76 law83) (by k_asm) (by k_asm) (by k_asm) N15 (by k_asm) (by first | exact rfl | assumption) (by ktr_room) (by ktr_units) ?_
    intro v16 nOut16 h16' tk16 dr16 hpost16 F16 N16
    clear N15
    obtain ⟨T16, q16, t16, t17, ps1, ps2, rfl, hT16, h76t, h83t, hrest⟩ := hpost16
    have N17 := news4 N16 hT16 h76t h83t (hrest _ (.head _))
    clear N16
    (try dsimp only)
    k_steps
  · refine Halt.mk ?_
    rename News _ _ _ _ => N1
    rename Fr _ _ _ _ => F1
    with_reducible rename IntsAre _ (List.map _ _) => hI1
    obtain ⟨ds, hds, hdl, hdr⟩ := draws_of hI1 (draw_len _)
    subst hds
    with_reducible rename Heap.IsList _ _ _ => zL
    clear zL
    have N2 := lawN3 N1
    clear N1
    obtain ⟨hp48, hd48, hZ⟩ := lawZ N2 rfl rfl (law48 (by decide) (by decide))
    refine ConD.use (struck_con (good := goodB (words3 [2, 8]) (-215612026922139903)) (ps := [(2, _), (8, _)]) (ds := ds) hZ ?hps (Nat.le_of_ble_eq_true rfl) all28 hd48 hdl hdr (.head _) (.tail _ (.head _))) (by k_asm) F1 (by k_asm) N2 (by k_asm) (by first | exact rfl | assumption) (by ktr_room) (by ktr_units) ?_
    case hps => simp
    intro v5 nOut5 h5' tk5 dr5 hpost5 F5 N5
    clear F1 N2
    obtain ⟨a5, n5, picks, rfl, hPT, hgood, h48, hsub5⟩ := hpost5
    obtain ⟨hm1, hm2, hm3⟩ := lawS N5 hp48 (by first | exact .head _ | exact .tail _ (.head _)) (by first | exact .head _ | exact .tail _ (.head _)) hsub5
    obtain ⟨g1, g2, g3', fin, g4, g5, g6, g7⟩ := goodB_fin hgood
    have g3 := And.intro g3' True.intro
    clear g3' hgood
    (try dsimp only)
    k_steps
    refine Halt.mk ?_
    rename News _ _ _ _ => N5
    refine ConD.use (words_con (ps := [(2, _), (8, _)]) hm1 ?hps2 (Nat.le_of_ble_eq_true rfl) words28) (by k_asm) (by k_asm) (by k_asm) N5 (by k_asm) (by first | exact rfl | assumption) (by ktr_room) (by ktr_units) ?_
    case hps2 => simp
    intro v6 nOut6 h6' tk6 dr6 hpost6 F6 N6
    clear N5
    obtain ⟨a6, n6, ws, rfl, hWT, hwp, hsub6⟩ := hpost6
    (try dsimp only)
    k_steps
    refine Halt.mk ?_
    rename News _ _ _ _ => N6
    refine ConD.use (book_con (PickTab.mono hPT hsub6) g4 (fun r hr => g1 r.plain (List.mem_map_of_mem hr)) (by rw [List.length_map] at g2; exact g2) g5) (by k_asm) (by k_asm) (by k_asm) N6 (by k_asm) (by first | exact rfl | assumption) (by ktr_room) (by ktr_units) ?_
    intro v7 nOut7 h7' tk7 dr7 hpost7 F7 N7
    clear N6
    obtain ⟨x7, d7, l7, n7, rows, rfl, hTab, hsub7, hrows⟩ := hpost7
    have hrl : rows.length = 26 := by
      have e := congrArg List.length hrows
      rw [List.length_map, List.length_map, g6, wlen28] at e
      exact e
    have hwl : ws.length = 26 := by rw [← wlen28, ← hwp, List.length_map]
    have hsz7 : (rows.map Row.ref).toArray.size ≤ sizeLine := by
      rw [sizeLine_eq]
      simp
      omega
    have hsz6 : (ws.map PickRow.ref).toArray.size ≤ sizeLine := by
      rw [sizeLine_eq]
      simp
      omega
    have N8 := news1 N7 (hsub7 _ (hsub6 _ hm1))
    have hs8 := newsTail N8
    clear N7
    obtain ⟨hin, ⟨tkh, hdi⟩, hli, hro, hok⟩ := Tab.mono hTab hs8
    have hwm := hs8 _ (hsub7 _ hWT.list)
    (try dsimp only)
    k_steps
    refine Halt.mk ?_
    refine ne_intEq ?elen ?_
    case elen => simp [hrl, hwl]
    k_steps
    refine Halt.mk ?_
    rename News _ _ _ _ => N9
    clear hin hdi hli hro hwm
    refine ConD.use (ring_con (PickTab.mono (PickTab.mono hWT hsub7) hs8) (PickTab.mono (PickTab.mono (PickTab.mono hPT hsub6) hsub7) hs8) (by rw [hwp]; exact g3.1) (by omega) (by rw [List.length_map] at g2; exact g2) (fun r hr => (wall_of wall28 hwp r hr).1.short)) (by k_asm) (by k_asm) (by k_asm) N9 (by k_asm) (by first | exact rfl | assumption) (by ktr_room) (by ktr_units) ?_
    intro v10 nOut10 h10' tk10 dr10 hpost10 F10 N10
    clear N9
    obtain ⟨rfl, hsub10⟩ := hpost10
    have N11 := news1 N10 (hsub10 _ (.head _))
    clear N10
    (try dsimp only)
    k_steps
    refine Halt.mk ?_
    rename News _ _ _ _ => N12
    rename Fr _ _ _ _ => F12
    have eb : (1 : Int) - (2 ^ Int.toNat 16 + (8 ^ Int.toNat 16 + 0)) = -281474976776191 := by decide +kernel
    have ea : (1 : Int) - (2 ^ Int.toNat 8 + (8 ^ Int.toNat 8 + 0)) = -16777471 := by decide +kernel
    rw [eb, ea] at F12
    have hs12 : ∀ p ∈ nOut7, p ∈ _ := fun p hp => newsTail2 N12 _ (hsub10 _ (hs8 _ hp))
    refine ConD.use (even_con (PickTab.mono (PickTab.mono hWT hsub7) hs12) (Tab.mono hTab hs12) (rows_v hrows) (by rw [rows_k hrows, hwp]; exact g7) (by omega) (wall_of wall28 hwp)) (by k_asm) F12 (by k_asm) N12 (by k_asm) (by first | exact rfl | assumption) (by ktr_room) (by ktr_units) ?_
    intro v13 nOut13 h13' tk13 dr13 hpost13 F13 N13
    clear N12 F12
    obtain ⟨⟨t13, rfl⟩, hsub13⟩ := hpost13
    (try dsimp only)
    k_steps
    refine Halt.mk ?_
    rename News _ _ _ _ => N14
    have ed : (-215612026922139903 : Int) * -281474976776191 - -16777471 = 60689390270576797854290038226944 := by decide +kernel
    have ec : (256 : Int) ^ Int.toNat 8 = 18446744073709551616 := by decide +kernel
    rw [ed, ec]
    obtain ⟨ps48, h48t⟩ := has48_tab h48
    have up : ∀ p ∈ nOut5, p ∈ nOut13 := fun p hp => hsub13 _ (hs12 _ (hsub7 _ (hsub6 _ hp)))
    have N15 := news3 N14 (up _ hm3) (up _ hm2) (up _ h48t)
    clear N14
    refine ConD.use (idm_at28 law76 law83) (by k_asm) (by k_asm) (by k_asm) N15 (by k_asm) (by first | exact rfl | assumption) (by ktr_room) (by ktr_units) ?_
    intro v16 nOut16 h16' tk16 dr16 hpost16 F16 N16
    clear N15
    obtain ⟨T16, q16, t16, t17, ps1, ps2, rfl, hT16, h76t, h83t, hrest⟩ := hpost16
    have N17 := news4 N16 hT16 h76t h83t (hrest _ (.head _))
    clear N16
    (try dsimp only)
    k_steps

end Mine


theorem PySem.Challenge.cw_to0080_01_holds : PySem.Challenge.rw_to0080_01.Holds := by
  exact Mine.law_walk
