import PyProof.Rows.All
import Wide.All
import OpenK.AllK
import Wide.FinOn
import PySem.Challenge.RW_mj0255_01
set_option Elab.async false
set_option linter.unusedVariables false
open PySem PySem.W PySem.Calls PyProof.Rows
namespace Mine
section
open PySem PySem.W PyProof.Rows
set_option maxRecDepth 1000000
set_option maxHeartbeats 0
noncomputable def de (P : Params) (x : Str) (t : Nat) (v : Value) : DictEntry := ⟨PyData.keyHash P x, .str x t, v⟩
noncomputable abbrev pB : List Stmt := PySem.Challenge.pw_mj0255_01.main.body
noncomputable def nthS : List Stmt → Nat → Stmt
  | [], _ => default
  | s :: _, 0 => s
  | _ :: r, n + 1 => nthS r n
noncomputable def inS (s : Stmt) : List Stmt := match s with
  | .ClassDef _ _ _ b _ _ _ _ _ _ _ => b
  | .FunctionDef _ _ b _ _ _ _ _ _ _ => b
  | _ => []
noncomputable def fnO (s : Stmt) (k : Str → Arguments → FuncBody → Scope → Obj) : Obj := match s with
  | .FunctionDef n a b _ _ _ sc _ _ _ => k n a (.stmts b) sc
  | _ => default
noncomputable def q41 (P : Params) : Obj := boot_o_0 P
noncomputable def q42 (P : Params) : Obj := ⟨.type "dict", none, .dict #[de P "builtins" 162 (.ref 4), de P "__main__" 163 (.ref 5), de P "_sre" 244 (.ref 12), de P "_collections" 292 (.ref 30)] 4, #[]⟩
noncomputable def q43 (P : Params) : Obj := ⟨.none, none, .dict #[de P "\x69mport.loaded._sre" 183 (.bool true), de P "class._frozen_importlib.BuiltinImporter" 185 (.ref 14), de P "watched.\x69mport" 206 (.ref 18), de P "class._frozen_importlib.ModuleSpec" 216 (.ref 22), de P "sys.modules.booked-epoch" 245 (.int 4 0), de P "\x69mport.later-laid._sre" 270 (.bool true), de P "watched.library" 272 (.ref 27), de P "watched.library-objects" 0 (.str "\x0c\x1e" 0), de P "watched.library-deep._sre" 273 (.str "\x04\x00\x00\x0b\x04\x00\x00\x0b\x04\x00\x00\x03\x04\x00\x00\x0b\x08\x04dict\x02" 0), de P "\x69mport.loaded._collections" 280 (.bool true), de P "sys.modules.landed._collections" 294 (.bool true), de P "\x69mport.later-laid._collections" 309 (.bool true), de P "watched.library-deep._collections" 311 (.str "\x04\x00\x00\x1d\x04\x00\x00\x1d\x04\x00\x00\x03\x04\x00\x00\x1d\x08\x04dict\x02" 0)] 13, #[]⟩
noncomputable def q44 (P : Params) : Obj := ⟨.type "dict", none, .dict #[de P "__name__" 165 (.str "__main__" 164), de P "__doc__" 166 .none, de P "__package__" 167 .none, de P "__loader__" 168 (.builtin "__main__.__loader__#opaque"), de P "__spec__" 169 .none, de P "__annotations__" 170 (.ref 6), de P "__builtins__" 171 (.ref 4), de P "__file__" 173 (.str "/claim/cut.py" 172), de P "__cached__" 174 .none, de P "_sre" 275 (.ref 12), de P "deque" 317 (.type "collections.deque")] 11, #[]⟩
noncomputable def q45 (P : Params) : Obj := ⟨.type "module", some 0, .plain, #[]⟩
noncomputable def q46 (P : Params) : Obj := ⟨.type "module", some 3, .plain, #[]⟩
noncomputable def q47 (P : Params) : Obj := ⟨.type "dict", none, .dict #[] 0, #[]⟩
noncomputable def q48 (P : Params) : Obj := ⟨.type "tuple", none, .seq #[] 0, #[]⟩
noncomputable def q49 (P : Params) : Obj := ⟨.none, none, .fields #[], #[]⟩
noncomputable def q50 (P : Params) : Obj := ⟨.type "code", none, .fields #[.str "<module>" 176, .str "<module>" 177, .str "/claim/cut.py" 178, .int 1 0, .int 0 0, .int 0 0, .int 0 0, .int 0 0, .ref 7, .bool false, .int 175 0, .ref 8, .none, .none, .none, .none, .int 179 0, .int 1 0, .str "/claim/cut.py" 180], #[]⟩
noncomputable def q51 (P : Params) : Obj := ⟨.type "frame", none, .plain, #[some (.ref 9), some (.ref 3), some (.ref 3), none, some (.str "__main__" 164), none, some (.ref 0)]⟩
noncomputable def q52 (P : Params) : Obj := ⟨.type "dict", none, .dict #[de P "__name__" 247 (.str "_sre" 246), de P "__doc__" 248 .none, de P "__package__" 250 (.str "" 249), de P "__loader__" 251 (.builtin "off-the-table:_sre.__loader__:shared#opaque"), de P "__spec__" 252 (.builtin "off-the-table:_sre.__spec__:shared#opaque"), de P "compile" 253 (.builtin "_sre.compile"), de P "template" 254 (.builtin "off-the-table:_sre.template:shared#opaque"), de P "getcodesize" 255 (.builtin "off-the-table:_sre.getcodesize:shared#opaque"), de P "ascii_iscased" 256 (.builtin "off-the-table:_sre.ascii_iscased:shared#opaque"), de P "unicode_iscased" 257 (.builtin "off-the-table:_sre.unicode_iscased:shared#opaque"), de P "ascii_tolower" 258 (.builtin "off-the-table:_sre.ascii_tolower:shared#opaque"), de P "unicode_tolower" 259 (.builtin "off-the-table:_sre.unicode_tolower:shared#opaque"), de P "MAGIC" 261 (.int 20230612 260), de P "CODESIZE" 263 (.int 4 262), de P "MAXREPEAT" 265 (.int 4294967295 264), de P "MAXGROUPS" 267 (.int 1073741823 266), de P "copyright" 269 (.str ⟨#[32, 83, 82, 69, 32, 50, 46, 50, 46, 50, 32, 67, 111, 112, 121, 114, 105, 103, 104, 116, 32, 40, 99, 41, 32, 49, 57, 57, 55, 45, 50, 48, 48, 50, 32, 98, 121, 32, 83, 101, 99, 114, 101, 116, 32, 76, 97, 98, 115, 32, 65, 66, 32]⟩ 268)] 17, #[]⟩
noncomputable def q53 (P : Params) : Obj := ⟨.type "module", some 11, .plain, #[]⟩
noncomputable def q54 (P : Params) : Obj := ⟨.type "dict", none, .dict #[de P "__module__" 189 (.str "_frozen_importlib" 186), de P "__firstlineno__" 190 (.int 971 187), de P "__doc__" 191 (.builtin "_frozen_importlib.BuiltinImporter.__doc__:str#opaque"), de P "_ORIGIN" 192 (.str "built-in" 188), de P "find_spec" 193 (.builtin "_frozen_importlib.BuiltinImporter.find_spec#opaque"), de P "create_module" 194 (.builtin "_frozen_importlib.BuiltinImporter.create_module#opaque"), de P "exec_module" 195 (.builtin "_frozen_importlib.BuiltinImporter.exec_module#opaque"), de P "get_code" 196 (.builtin "_frozen_importlib.BuiltinImporter.get_code#opaque"), de P "get_source" 197 (.builtin "_frozen_importlib.BuiltinImporter.get_source#opaque"), de P "is_package" 198 (.builtin "_frozen_importlib.BuiltinImporter.is_package#opaque"), de P "load_module" 199 (.builtin "_frozen_importlib.BuiltinImporter.load_module#opaque"), de P "__static_attributes__" 200 (.ref 15), de P "__dict__" 202 (.ref 16), de P "__weakref__" 204 (.ref 17)] 14, #[]⟩
noncomputable def q55 (P : Params) : Obj := ⟨.type "type", none, .cls ⟨"BuiltinImporter", [.type "object"], [.ref 14, .type "object"], 13, "BuiltinImporter", true, [], [], false, none, false⟩, #[]⟩
noncomputable def q56 (P : Params) : Obj := ⟨.type "tuple", none, .seq #[] 0, #[]⟩
noncomputable def q57 (P : Params) : Obj := ⟨.type "getset_descriptor", none, .fields #[.str "__dict__" 201, .ref 14, .builtin "function.__dict__", .builtin "function.__dict__#set"], #[]⟩
noncomputable def q58 (P : Params) : Obj := ⟨.type "getset_descriptor", none, .fields #[.str "__weakref__" 203, .ref 14, .builtin "ExceptionGroup.__weakref__", .none], #[]⟩
noncomputable def q59 (P : Params) : Obj := ⟨.none, none, .seq #[.int 13 0, .str ⟨#[6, 189, 10, 95, 95, 109, 111, 100, 117, 108, 101, 95, 95, 6, 186, 17, 95, 102, 114, 111, 122, 101, 110, 95, 105, 109, 112, 111, 114, 116, 108, 105, 98, 6, 190, 15, 95, 95, 102, 105, 114, 115, 116, 108, 105, 110, 101, 110, 111, 95, 95, 4, 187, 0, 971, 6, 191, 7, 95, 95, 100, 111, 99, 95, 95, 9, 52, 95, 102, 114, 111, 122, 101, 110, 95, 105, 109, 112, 111, 114, 116, 108, 105, 98, 46, 66, 117, 105, 108, 116, 105, 110, 73, 109, 112, 111, 114, 116, 101, 114, 46, 95, 95, 100, 111, 99, 95, 95, 58, 115, 116, 114, 35, 111, 112, 97, 113, 117, 101, 6, 192, 7, 95, 79, 82, 73, 71, 73, 78, 6, 188, 8, 98, 117, 105, 108, 116, 45, 105, 110, 6, 193, 9, 102, 105, 110, 100, 95, 115, 112, 101, 99, 9, 50, 95, 102, 114, 111, 122, 101, 110, 95, 105, 109, 112, 111, 114, 116, 108, 105, 98, 46, 66, 117, 105, 108, 116, 105, 110, 73, 109, 112, 111, 114, 116, 101, 114, 46, 102, 105, 110, 100, 95, 115, 112, 101, 99, 35, 111, 112, 97, 113, 117, 101, 6, 194, 13, 99, 114, 101, 97, 116, 101, 95, 109, 111, 100, 117, 108, 101, 9, 54, 95, 102, 114, 111, 122, 101, 110, 95, 105, 109, 112, 111, 114, 116, 108, 105, 98, 46, 66, 117, 105, 108, 116, 105, 110, 73, 109, 112, 111, 114, 116, 101, 114, 46, 99, 114, 101, 97, 116, 101, 95, 109, 111, 100, 117, 108, 101, 35, 111, 112, 97, 113, 117, 101, 6, 195, 11, 101, 120, 101, 99, 95, 109, 111, 100, 117, 108, 101, 9, 52, 95, 102, 114, 111, 122, 101, 110, 95, 105, 109, 112, 111, 114, 116, 108, 105, 98, 46, 66, 117, 105, 108, 116, 105, 110, 73, 109, 112, 111, 114, 116, 101, 114, 46, 101, 120, 101, 99, 95, 109, 111, 100, 117, 108, 101, 35, 111, 112, 97, 113, 117, 101, 6, 196, 8, 103, 101, 116, 95, 99, 111, 100, 101, 9, 49, 95, 102, 114, 111, 122, 101, 110, 95, 105, 109, 112, 111, 114, 116, 108, 105, 98, 46, 66, 117, 105, 108, 116, 105, 110, 73, 109, 112, 111, 114, 116, 101, 114, 46, 103, 101, 116, 95, 99, 111, 100, 101, 35, 111, 112, 97, 113, 117, 101, 6, 197, 10, 103, 101, 116, 95, 115, 111, 117, 114, 99, 101, 9, 51, 95, 102, 114, 111, 122, 101, 110, 95, 105, 109, 112, 111, 114, 116, 108, 105, 98, 46, 66, 117, 105, 108, 116, 105, 110, 73, 109, 112, 111, 114, 116, 101, 114, 46, 103, 101, 116, 95, 115, 111, 117, 114, 99, 101, 35, 111, 112, 97, 113, 117, 101, 6, 198, 10, 105, 115, 95, 112, 97, 99, 107, 97, 103, 101, 9, 51, 95, 102, 114, 111, 122, 101, 110, 95, 105, 109, 112, 111, 114, 116, 108, 105, 98, 46, 66, 117, 105, 108, 116, 105, 110, 73, 109, 112, 111, 114, 116, 101, 114, 46, 105, 115, 95, 112, 97, 99, 107, 97, 103, 101, 35, 111, 112, 97, 113, 117, 101, 6, 199, 11, 108, 111, 97, 100, 95, 109, 111, 100, 117, 108, 101, 9, 52, 95, 102, 114, 111, 122, 101, 110, 95, 105, 109, 112, 111, 114, 116, 108, 105, 98, 46, 66, 117, 105, 108, 116, 105, 110, 73, 109, 112, 111, 114, 116, 101, 114, 46, 108, 111, 97, 100, 95, 109, 111, 100, 117, 108, 101, 35, 111, 112, 97, 113, 117, 101, 6, 200, 21, 95, 95, 115, 116, 97, 116, 105, 99, 95, 97, 116, 116, 114, 105, 98, 117, 116, 101, 115, 95, 95, 4, 0, 0, 15, 6, 202, 8, 95, 95, 100, 105, 99, 116, 95, 95, 4, 0, 0, 16, 6, 204, 11, 95, 95, 119, 101, 97, 107, 114, 101, 102, 95, 95, 4, 0, 0, 17]⟩ 0, .bool true, .bool true, .str "" 205, .int 21 0, .str ⟨#[6, 227, 10, 95, 95, 109, 111, 100, 117, 108, 101, 95, 95, 6, 217, 17, 95, 102, 114, 111, 122, 101, 110, 95, 105, 109, 112, 111, 114, 116, 108, 105, 98, 6, 228, 15, 95, 95, 102, 105, 114, 115, 116, 108, 105, 110, 101, 110, 111, 95, 95, 4, 218, 0, 562, 6, 229, 7, 95, 95, 100, 111, 99, 95, 95, 9, 47, 95, 102, 114, 111, 122, 101, 110, 95, 105, 109, 112, 111, 114, 116, 108, 105, 98, 46, 77, 111, 100, 117, 108, 101, 83, 112, 101, 99, 46, 95, 95, 100, 111, 99, 95, 95, 58, 115, 116, 114, 35, 111, 112, 97, 113, 117, 101, 6, 230, 8, 95, 95, 105, 110, 105, 116, 95, 95, 9, 44, 95, 102, 114, 111, 122, 101, 110, 95, 105, 109, 112, 111, 114, 116, 108, 105, 98, 46, 77, 111, 100, 117, 108, 101, 83, 112, 101, 99, 46, 95, 95, 105, 110, 105, 116, 95, 95, 35, 111, 112, 97, 113, 117, 101, 6, 231, 8, 95, 95, 114, 101, 112, 114, 95, 95, 9, 44, 95, 102, 114, 111, 122, 101, 110, 95, 105, 109, 112, 111, 114, 116, 108, 105, 98, 46, 77, 111, 100, 117, 108, 101, 83, 112, 101, 99, 46, 95, 95, 114, 101, 112, 114, 95, 95, 35, 111, 112, 97, 113, 117, 101, 6, 232, 6, 95, 95, 101, 113, 95, 95, 9, 42, 95, 102, 114, 111, 122, 101, 110, 95, 105, 109, 112, 111, 114, 116, 108, 105, 98, 46, 77, 111, 100, 117, 108, 101, 83, 112, 101, 99, 46, 95, 95, 101, 113, 95, 95, 35, 111, 112, 97, 113, 117, 101, 6, 233, 6, 99, 97, 99, 104, 101, 100, 9, 42, 95, 102, 114, 111, 122, 101, 110, 95, 105, 109, 112, 111, 114, 116, 108, 105, 98, 46, 77, 111, 100, 117, 108, 101, 83, 112, 101, 99, 46, 99, 97, 99, 104, 101, 100, 35, 111, 112, 97, 113, 117, 101, 6, 234, 6, 112, 97, 114, 101, 110, 116, 9, 42, 95, 102, 114, 111, 122, 101, 110, 95, 105, 109, 112, 111, 114, 116, 108, 105, 98, 46, 77, 111, 100, 117, 108, 101, 83, 112, 101, 99, 46, 112, 97, 114, 101, 110, 116, 35, 111, 112, 97, 113, 117, 101, 6, 235, 12, 104, 97, 115, 95, 108, 111, 99, 97, 116, 105, 111, 110, 9, 48, 95, 102, 114, 111, 122, 101, 110, 95, 105, 109, 112, 111, 114, 116, 108, 105, 98, 46, 77, 111, 100, 117, 108, 101, 83, 112, 101, 99, 46, 104, 97, 115, 95, 108, 111, 99, 97, 116, 105, 111, 110, 35, 111, 112, 97, 113, 117, 101, 6, 236, 21, 95, 95, 115, 116, 97, 116, 105, 99, 95, 97, 116, 116, 114, 105, 98, 117, 116, 101, 115, 95, 95, 4, 0, 0, 23, 6, 238, 8, 95, 95, 100, 105, 99, 116, 95, 95, 4, 0, 0, 24, 6, 240, 11, 95, 95, 119, 101, 97, 107, 114, 101, 102, 95, 95, 4, 0, 0, 25, 6, 241, 8, 95, 95, 104, 97, 115, 104, 95, 95, 0]⟩ 0, .bool true, .bool true, .str "" 242] 1, #[]⟩
noncomputable def q60 (P : Params) : Obj := ⟨.type "list", none, .seq #[] 0, #[]⟩
noncomputable def q61 (P : Params) : Obj := ⟨.type "dict", none, .dict #[de P "name" 208 (.str "_sre" 207), de P "loader" 209 (.ref 14), de P "origin" 210 (.str "built-in" 184), de P "loader_state" 211 .none, de P "submodule_search_locations" 212 .none, de P "_uninitialized_submodules" 213 (.ref 19), de P "_set_fileattr" 214 (.bool false), de P "_cached" 215 .none, de P "_initializing" 243 (.bool false)] 9, #[]⟩
noncomputable def q62 (P : Params) : Obj := ⟨.type "dict", none, .dict #[de P "__module__" 227 (.str "_frozen_importlib" 217), de P "__firstlineno__" 228 (.int 562 218), de P "__doc__" 229 (.builtin "_frozen_importlib.ModuleSpec.__doc__:str#opaque"), de P "__init__" 230 (.builtin "_frozen_importlib.ModuleSpec.__init__#opaque"), de P "__repr__" 231 (.builtin "_frozen_importlib.ModuleSpec.__repr__#opaque"), de P "__eq__" 232 (.builtin "_frozen_importlib.ModuleSpec.__eq__#opaque"), de P "cached" 233 (.builtin "_frozen_importlib.ModuleSpec.cached#opaque"), de P "parent" 234 (.builtin "_frozen_importlib.ModuleSpec.parent#opaque"), de P "has_location" 235 (.builtin "_frozen_importlib.ModuleSpec.has_location#opaque"), de P "__static_attributes__" 236 (.ref 23), de P "__dict__" 238 (.ref 24), de P "__weakref__" 240 (.ref 25), de P "__hash__" 241 .none] 13, #[]⟩
noncomputable def q63 (P : Params) : Obj := ⟨.type "type", none, .cls ⟨"ModuleSpec", [.type "object"], [.ref 22, .type "object"], 21, "ModuleSpec", true, [], [], false, none, false⟩, #[]⟩
noncomputable def q64 (P : Params) : Obj := ⟨.type "tuple", none, .seq #[.str "_cached" 219, .str "_set_fileattr" 220, .str "_uninitialized_submodules" 221, .str "loader" 222, .str "loader_state" 223, .str "name" 224, .str "origin" 225, .str "submodule_search_locations" 226] 0, #[]⟩
noncomputable def q65 (P : Params) : Obj := ⟨.type "getset_descriptor", none, .fields #[.str "__dict__" 237, .ref 22, .builtin "function.__dict__", .builtin "function.__dict__#set"], #[]⟩
noncomputable def q66 (P : Params) : Obj := ⟨.type "getset_descriptor", none, .fields #[.str "__weakref__" 239, .ref 22, .builtin "ExceptionGroup.__weakref__", .none], #[]⟩
noncomputable def q67 (P : Params) : Obj := ⟨.ref 22, some 20, .plain, #[]⟩
noncomputable def q68 (P : Params) : Obj := ⟨.none, none, .seq #[.int 11 0, .str ⟨#[6, 247, 8, 95, 95, 110, 97, 109, 101, 95, 95, 6, 246, 4, 95, 115, 114, 101, 6, 248, 7, 95, 95, 100, 111, 99, 95, 95, 0, 6, 250, 11, 95, 95, 112, 97, 99, 107, 97, 103, 101, 95, 95, 6, 249, 0, 6, 251, 10, 95, 95, 108, 111, 97, 100, 101, 114, 95, 95, 4, 0, 0, 14, 6, 252, 8, 95, 95, 115, 112, 101, 99, 95, 95, 4, 0, 0, 26, 6, 253, 7, 99, 111, 109, 112, 105, 108, 101, 9, 12, 95, 115, 114, 101, 46, 99, 111, 109, 112, 105, 108, 101, 6, 254, 8, 116, 101, 109, 112, 108, 97, 116, 101, 9, 13, 95, 115, 114, 101, 46, 116, 101, 109, 112, 108, 97, 116, 101, 6, 255, 11, 103, 101, 116, 99, 111, 100, 101, 115, 105, 122, 101, 9, 16, 95, 115, 114, 101, 46, 103, 101, 116, 99, 111, 100, 101, 115, 105, 122, 101, 6, 256, 13, 97, 115, 99, 105, 105, 95, 105, 115, 99, 97, 115, 101, 100, 9, 18, 95, 115, 114, 101, 46, 97, 115, 99, 105, 105, 95, 105, 115, 99, 97, 115, 101, 100, 6, 257, 15, 117, 110, 105, 99, 111, 100, 101, 95, 105, 115, 99, 97, 115, 101, 100, 9, 20, 95, 115, 114, 101, 46, 117, 110, 105, 99, 111, 100, 101, 95, 105, 115, 99, 97, 115, 101, 100, 6, 258, 13, 97, 115, 99, 105, 105, 95, 116, 111, 108, 111, 119, 101, 114, 9, 18, 95, 115, 114, 101, 46, 97, 115, 99, 105, 105, 95, 116, 111, 108, 111, 119, 101, 114, 6, 259, 15, 117, 110, 105, 99, 111, 100, 101, 95, 116, 111, 108, 111, 119, 101, 114, 9, 20, 95, 115, 114, 101, 46, 117, 110, 105, 99, 111, 100, 101, 95, 116, 111, 108, 111, 119, 101, 114, 6, 261, 5, 77, 65, 71, 73, 67, 4, 260, 0, 20230612, 6, 263, 8, 67, 79, 68, 69, 83, 73, 90, 69, 4, 262, 0, 4, 6, 265, 9, 77, 65, 88, 82, 69, 80, 69, 65, 84, 4, 264, 0, 4294967295, 6, 267, 9, 77, 65, 88, 71, 82, 79, 85, 80, 83, 4, 266, 0, 1073741823, 6, 269, 9, 99, 111, 112, 121, 114, 105, 103, 104, 116, 6, 268, 53, 32, 83, 82, 69, 32, 50, 46, 50, 46, 50, 32, 67, 111, 112, 121, 114, 105, 103, 104, 116, 32, 40, 99, 41, 32, 49, 57, 57, 55, 45, 50, 48, 48, 50, 32, 98, 121, 32, 83, 101, 99, 114, 101, 116, 32, 76, 97, 98, 115, 32, 65, 66, 32]⟩ 0, .bool true, .bool false, .str "_sre" 271, .int 29 0, .str ⟨#[6, 296, 8, 95, 95, 110, 97, 109, 101, 95, 95, 6, 295, 12, 95, 99, 111, 108, 108, 101, 99, 116, 105, 111, 110, 115, 6, 297, 7, 95, 95, 100, 111, 99, 95, 95, 9, 31, 95, 99, 111, 108, 108, 101, 99, 116, 105, 111, 110, 115, 46, 95, 95, 100, 111, 99, 95, 95, 58, 115, 116, 114, 35, 111, 112, 97, 113, 117, 101, 6, 299, 11, 95, 95, 112, 97, 99, 107, 97, 103, 101, 95, 95, 6, 298, 0, 6, 300, 10, 95, 95, 108, 111, 97, 100, 101, 114, 95, 95, 4, 0, 0, 14, 6, 301, 8, 95, 95, 115, 112, 101, 99, 95, 95, 4, 0, 0, 33, 6, 302, 15, 95, 99, 111, 117, 110, 116, 95, 101, 108, 101, 109, 101, 110, 116, 115, 9, 28, 95, 99, 111, 108, 108, 101, 99, 116, 105, 111, 110, 115, 46, 95, 99, 111, 117, 110, 116, 95, 101, 108, 101, 109, 101, 110, 116, 115, 6, 303, 5, 100, 101, 113, 117, 101, 8, 17, 99, 111, 108, 108, 101, 99, 116, 105, 111, 110, 115, 46, 100, 101, 113, 117, 101, 6, 304, 11, 100, 101, 102, 97, 117, 108, 116, 100, 105, 99, 116, 8, 23, 99, 111, 108, 108, 101, 99, 116, 105, 111, 110, 115, 46, 100, 101, 102, 97, 117, 108, 116, 100, 105, 99, 116, 6, 305, 15, 95, 100, 101, 113, 117, 101, 95, 105, 116, 101, 114, 97, 116, 111, 114, 8, 27, 99, 111, 108, 108, 101, 99, 116, 105, 111, 110, 115, 46, 95, 100, 101, 113, 117, 101, 95, 105, 116, 101, 114, 97, 116, 111, 114, 6, 306, 23, 95, 100, 101, 113, 117, 101, 95, 114, 101, 118, 101, 114, 115, 101, 95, 105, 116, 101, 114, 97, 116, 111, 114, 8, 35, 99, 111, 108, 108, 101, 99, 116, 105, 111, 110, 115, 46, 95, 100, 101, 113, 117, 101, 95, 114, 101, 118, 101, 114, 115, 101, 95, 105, 116, 101, 114, 97, 116, 111, 114, 6, 307, 12, 95, 116, 117, 112, 108, 101, 103, 101, 116, 116, 101, 114, 8, 24, 99, 111, 108, 108, 101, 99, 116, 105, 111, 110, 115, 46, 95, 116, 117, 112, 108, 101, 103, 101, 116, 116, 101, 114, 6, 308, 11, 79, 114, 100, 101, 114, 101, 100, 68, 105, 99, 116, 8, 23, 99, 111, 108, 108, 101, 99, 116, 105, 111, 110, 115, 46, 79, 114, 100, 101, 114, 101, 100, 68, 105, 99, 116]⟩ 0, .bool true, .bool false, .str "_collections" 310] 1, #[]⟩
noncomputable def q69 (P : Params) : Obj := ⟨.type "tuple", none, .seq #[.str "deque" 277] 0, #[]⟩
noncomputable def q70 (P : Params) : Obj := ⟨.type "dict", none, .dict #[de P "__name__" 296 (.str "_collections" 295), de P "__doc__" 297 (.builtin "off-the-table:_collections.__doc__:shared#opaque"), de P "__package__" 299 (.str "" 298), de P "__loader__" 300 (.builtin "off-the-table:_collections.__loader__:shared#opaque"), de P "__spec__" 301 (.builtin "off-the-table:_collections.__spec__:shared#opaque"), de P "_count_elements" 302 (.builtin "_collections._count_elements"), de P "deque" 303 (.type "collections.deque"), de P "defaultdict" 304 (.type "collections.defaultdict"), de P "_deque_iterator" 305 (.builtin "off-the-table:_collections._deque_iterator:shared#opaque"), de P "_deque_reverse_iterator" 306 (.builtin "off-the-table:_collections._deque_reverse_iterator:shared#opaque"), de P "_tuplegetter" 307 (.type "collections._tuplegetter"), de P "OrderedDict" 308 (.type "collections.OrderedDict")] 12, #[]⟩
noncomputable def q71 (P : Params) : Obj := ⟨.type "module", some 29, .plain, #[]⟩
noncomputable def q72 (P : Params) : Obj := ⟨.type "list", none, .seq #[] 0, #[]⟩
noncomputable def q73 (P : Params) : Obj := ⟨.type "dict", none, .dict #[de P "name" 283 (.str "_collections" 282), de P "loader" 284 (.ref 14), de P "origin" 285 (.str "built-in" 281), de P "loader_state" 286 .none, de P "submodule_search_locations" 287 .none, de P "_uninitialized_submodules" 288 (.ref 31), de P "_set_fileattr" 289 (.bool false), de P "_cached" 290 .none, de P "_initializing" 291 (.bool false)] 9, #[]⟩
noncomputable def q74 (P : Params) : Obj := ⟨.ref 22, some 32, .plain, #[]⟩
noncomputable def q75 (P : Params) : Obj := ⟨.type "tuple", none, .seq #[] 0, #[]⟩
noncomputable def q76 (P : Params) : Obj := ⟨.none, none, .fields #[], #[]⟩
noncomputable def q77 (P : Params) : Obj := ⟨.type "code", none, .fields #[.str "<module>" 319, .str "<module>" 320, .str "/claim/cut.py" 321, .int 1 0, .int 0 0, .int 0 0, .int 0 0, .int 0 0, .ref 34, .bool false, .int 318 0, .ref 35, .none, .none, .none, .none, .int 322 0, .int 1 0, .str "/claim/cut.py" 323], #[]⟩
noncomputable def q78 (P : Params) : Obj := ⟨.type "frame", none, .plain, #[some (.ref 36), some (.ref 3), some (.ref 3), none, some (.str "__main__" 164), none, some (.ref 0)]⟩
noncomputable def q171 (P : Params) : Obj := ⟨.type "dict", none, .dict #[de P "__name__" 165 (.str "io" 381), de P "__doc__" 166 .none, de P "__package__" 167 .none, de P "__loader__" 168 (.builtin "__main__.__loader__#opaque"), de P "__spec__" 169 .none, de P "__annotations__" 170 (.ref 6), de P "__builtins__" 171 (.ref 4), de P "__file__" 173 (.str "/claim/cut.py" 172), de P "__cached__" 174 .none, de P "_sre" 275 (.ref 12), de P "deque" 317 (.type "collections.deque"), de P "_wall" 330 (.ref 44), de P "replace" 340 (.ref 51), de P "_twin_re_1" 380 (.ref 56), de P "_whence" 390 (.ref 63), de P "_index" 398 (.ref 70), de P "UnsupportedOperation" 420 (.ref 80), de P "IOBase" 452 (.ref 100), de P "BufferedIOBase" 470 (.ref 115), de P "TextIOBase" 488 (.ref 127)] 20, #[]⟩
noncomputable def q108 (P : Params) : Obj := fnO (nthS pB 7) fun n a b sc => ⟨.type "function", none, .func (⟨n, "_whence", a, b, sc, 3, [], .none, .none, .none, .str "io" 381, none, .ref 62, .none, 0⟩), #[]⟩
noncomputable def q183 (P : Params) : Obj := ⟨.type "type", none, .cls ⟨"TextIOBase", [.ref 100], [.ref 127, .ref 100, .type "object"], 126, "TextIOBase", true, [], [], false, none, false⟩, #[some (.ref 118), none, some (.str "TextIOBase" 471), some (.str "TextIOBase" 479), some .none, some (.bool true)]⟩
noncomputable def q145 (P : Params) : Obj := fnO (nthS (inS (nthS pB 10)) 1) fun n a b sc => ⟨.none, none, .func (⟨n, "IOBase.__new__", a, b, sc, 0, [], .none, .none, .none, .none, none, .none, .none, 0⟩), #[]⟩
noncomputable def q92 (P : Params) : Obj := ⟨.type "tuple", none, .seq #[.str "text" 336, .str "pairs" 337] 0, #[]⟩
noncomputable def q127 (P : Params) : Obj := ⟨.type "dict", none, .dict #[⟨PyData.keyHash P "__module__", .str "__module__" 406, .str "io" 411⟩, ⟨PyData.keyHash P "__firstlineno__", .str "__firstlineno__" 410, .int 26 409⟩, ⟨PyData.keyHash P "__static_attributes__", .str "__static_attributes__" 413, .ref 78⟩, ⟨PyData.keyHash P "__weakref__", .str "__weakref__" 415, .ref 81⟩, ⟨PyData.keyHash P "__doc__", .str "__doc__" 416, .none⟩] 3, #[]⟩
noncomputable def q164 (P : Params) : Obj := ⟨.type "code", none, .fields #[.str "BufferedIOBase" 455, .str "BufferedIOBase" 456, .str "/claim/cut.py" 457, .int 35 0, .int 0 0, .int 0 0, .int 0 0, .int 0 0, .ref 109, .bool false, .int 318 0, .ref 110, .none, .none, .none, .none, .int 458 0, .int 35 0, .str "/claim/cut.py" 459], #[]⟩
noncomputable def q84 (P : Params) : Obj := ⟨.none, none, .fields #[], #[]⟩
noncomputable def q119 (P : Params) : Obj := ⟨.type "tuple", none, .seq #[.type "OSError", .type "ValueError"] 0, #[]⟩
noncomputable def q153 (P : Params) : Obj := ⟨.type "getset_descriptor", none, .fields #[.str "__weakref__" 448, .ref 100, .builtin "ExceptionGroup.__weakref__", .none], #[]⟩
noncomputable def q100 (P : Params) : Obj := ⟨.type "tuple", none, .seq #[.int 14 0, .int 17 0, .int 4 0, .int 1 0, .int 1 0, .int 21 0, .int 9 0, .int 0 0, .int 604043296 0, .int 1 0, .int 0 0, .int 0 0, .int 0 0, .int 0 0, .int 0 0, .int 8 0, .int 4 0, .int 0 0, .int 13 0, .int 14 0, .int 21 0, .int 9 0, .int 0 0, .int 604043296 0, .int 1 0, .int 0 0, .int 0 0, .int 0 0, .int 0 0, .int 0 0, .int 8 0, .int 4 0, .int 0 0, .int 1 0] 0, #[]⟩
noncomputable def q137 (P : Params) : Obj := ⟨.type "tuple", none, .seq #[] 0, #[]⟩
noncomputable def q175 (P : Params) : Obj := ⟨.type "builtin_function_or_method", none, .fields #[.builtin "type.__prepare__", .type "type"], #[]⟩
noncomputable def q172 (P : Params) : Obj := ⟨.none, none, .fields #[.int 3 0, .int 0 0, .ref 43, .int 7 0, .int 0 0, .ref 50, .int 14 0, .int 0 0, .ref 62, .int 19 0, .int 0 0, .ref 69, .int 26 0, .int 0 0, .ref 76, .int 28 0, .int 0 0, .ref 89, .int 35 0, .int 0 0, .ref 111, .int 37 0, .int 0 0, .ref 123], #[]⟩
noncomputable def q112 (P : Params) : Obj := ⟨.type "tuple", none, .seq #[] 0, #[]⟩
noncomputable def q149 (P : Params) : Obj := ⟨.type "dict", none, .dict #[⟨PyData.keyHash P "__module__", .str "__module__" 428, .str "io" 433⟩, ⟨PyData.keyHash P "__firstlineno__", .str "__firstlineno__" 432, .int 28 431⟩, ⟨PyData.keyHash P "__new__", .str "__new__" 443, .ref 101⟩, ⟨PyData.keyHash P "__static_attributes__", .str "__static_attributes__" 444, .ref 98⟩, ⟨PyData.keyHash P "__dict__", .str "__dict__" 447, .ref 102⟩, ⟨PyData.keyHash P "__weakref__", .str "__weakref__" 449, .ref 103⟩, ⟨PyData.keyHash P "__doc__", .str "__doc__" 450, .none⟩] 4, #[]⟩
noncomputable def q96 (P : Params) : Obj := fnO (nthS pB 4) fun n a b sc => ⟨.type "function", none, .func (⟨n, "replace", a, b, sc, 3, [], .none, .none, .none, .str "cpy313.pydoc" 331, none, .ref 50, .none, 0⟩), #[]⟩
noncomputable def q131 (P : Params) : Obj := ⟨.type "builtin_function_or_method", none, .fields #[.builtin "object.__init_subclass__", .ref 80], #[]⟩
noncomputable def q168 (P : Params) : Obj := ⟨.type "type", none, .cls ⟨"BufferedIOBase", [.ref 100], [.ref 115, .ref 100, .type "object"], 114, "BufferedIOBase", true, [], [], false, none, false⟩, #[some (.ref 106), none, some (.str "BufferedIOBase" 453), some (.str "BufferedIOBase" 461), some .none, some (.bool true)]⟩
noncomputable def q88 (P : Params) : Obj := ⟨.type "code", none, .fields #[.str "_wall" 324, .str "_wall" 325, .str "/claim/cut.py" 326, .int 3 0, .int 1 0, .int 0 0, .int 0 0, .int 3 0, .ref 38, .bool true, .int 318 0, .ref 39, .none, .ref 40, .ref 41, .ref 42, .int 328 0, .int 3 0, .str "/claim/cut.py" 329], #[]⟩
noncomputable def q123 (P : Params) : Obj := ⟨.none, none, .fields #[], #[]⟩
noncomputable def q160 (P : Params) : Obj := ⟨.type "builtin_function_or_method", none, .fields #[.builtin "type.__prepare__", .type "type"], #[]⟩
noncomputable def q104 (P : Params) : Obj := ⟨.type "tuple", none, .seq #[.str "n" 386, .str "what" 387] 0, #[]⟩
noncomputable def q141 (P : Params) : Obj := ⟨.type "tuple", none, .seq #[] 0, #[]⟩
noncomputable def q179 (P : Params) : Obj := ⟨.type "code", none, .fields #[.str "TextIOBase" 473, .str "TextIOBase" 474, .str "/claim/cut.py" 475, .int 37 0, .int 0 0, .int 0 0, .int 0 0, .int 0 0, .ref 121, .bool false, .int 318 0, .ref 122, .none, .none, .none, .none, .int 476 0, .int 37 0, .str "/claim/cut.py" 477], #[]⟩
noncomputable def q110 (P : Params) : Obj := ⟨.none, none, .fields #[], #[]⟩
noncomputable def q185 (P : Params) : Obj := ⟨.type "builtin_function_or_method", none, .fields #[.builtin "object.__init_subclass__", .ref 127], #[]⟩
noncomputable def q147 (P : Params) : Obj := fnO (nthS (inS (nthS pB 10)) 1) fun n a b sc => ⟨.type "function", none, .func (⟨n, "IOBase.__new__", a, b, sc, 3, [], .none, .none, .none, .str "io" 381, none, .ref 96, .none, 0⟩), #[]⟩
noncomputable def q94 (P : Params) : Obj := fnO (nthS pB 4) fun n a b sc => ⟨.none, none, .func (⟨n, "replace", a, b, sc, 0, [], .none, .none, .none, .none, none, .none, .none, 0⟩), #[]⟩
noncomputable def q129 (P : Params) : Obj := ⟨.type "getset_descriptor", none, .fields #[.str "__weakref__" 414, .ref 80, .builtin "ExceptionGroup.__weakref__", .none], #[]⟩
noncomputable def q166 (P : Params) : Obj := ⟨.type "tuple", none, .seq #[] 0, #[]⟩
noncomputable def q86 (P : Params) : Obj := ⟨.type "tuple", none, .seq #[] 0, #[]⟩
noncomputable def q121 (P : Params) : Obj := ⟨.type "dict", none, .dict #[de P "__module__" 406 (.str "io" 411), de P "__qualname__" 408 (.str "UnsupportedOperation" 407), de P "__firstlineno__" 410 (.int 26 409), de P "__static_attributes__" 413 (.ref 78)] 4, #[]⟩
noncomputable def q155 (P : Params) : Obj := ⟨.type "builtin_function_or_method", none, .fields #[.builtin "object.__init_subclass__", .ref 100], #[]⟩
noncomputable def q102 (P : Params) : Obj := ⟨.type "tuple", none, .seq #[] 0, #[]⟩
noncomputable def q139 (P : Params) : Obj := ⟨.type "code", none, .fields #[.str "IOBase" 423, .str "IOBase" 424, .str "/claim/cut.py" 425, .int 28 0, .int 0 0, .int 0 0, .int 0 0, .int 0 0, .ref 87, .bool false, .int 318 0, .ref 88, .none, .none, .none, .none, .int 426 0, .int 28 0, .str "/claim/cut.py" 427], #[]⟩
noncomputable def q177 (P : Params) : Obj := ⟨.type "tuple", none, .seq #[] 0, #[]⟩
noncomputable def q114 (P : Params) : Obj := ⟨.type "code", none, .fields #[.str "_index" 391, .str "_index" 392, .str "/claim/cut.py" 393, .int 19 0, .int 2 0, .int 0 0, .int 0 0, .int 3 0, .ref 64, .bool true, .int 318 0, .ref 65, .none, .ref 66, .ref 67, .ref 68, .int 396 0, .int 19 0, .str "/claim/cut.py" 397], #[]⟩
noncomputable def q151 (P : Params) : Obj := ⟨.type "staticmethod", none, .fields #[.ref 97], #[]⟩
noncomputable def q98 (P : Params) : Obj := ⟨.type "dict", none, .dict #[] 0, #[]⟩
noncomputable def q135 (P : Params) : Obj := ⟨.type "builtin_function_or_method", none, .fields #[.builtin "type.__prepare__", .type "type"], #[]⟩
noncomputable def q170 (P : Params) : Obj := ⟨.type "builtin_function_or_method", none, .fields #[.builtin "object.__init_subclass__", .ref 115], #[]⟩
noncomputable def q90 (P : Params) : Obj := ⟨.type "tuple", none, .seq #[] 0, #[]⟩
noncomputable def q125 (P : Params) : Obj := ⟨.type "frame", none, .plain, #[some (.ref 76), some (.ref 3), some (.ref 73), none, some (.str "io" 381), none, some (.ref 0)]⟩
noncomputable def q162 (P : Params) : Obj := ⟨.type "tuple", none, .seq #[] 0, #[]⟩
noncomputable def q106 (P : Params) : Obj := fnO (nthS pB 7) fun n a b sc => ⟨.none, none, .func (⟨n, "_whence", a, b, sc, 0, [], .none, .none, .none, .none, none, .none, .none, 0⟩), #[]⟩
noncomputable def q143 (P : Params) : Obj := ⟨.type "tuple", none, .seq #[.str "cls" 438, .str "args" 439, .str "kwargs" 440] 0, #[]⟩
noncomputable def q181 (P : Params) : Obj := ⟨.type "tuple", none, .seq #[] 0, #[]⟩
noncomputable def q116 (P : Params) : Obj := ⟨.none, none, .dict #[⟨PyData.keyHash P "\x69mport.loaded._sre", .str "\x69mport.loaded._sre" 183, .bool true⟩, ⟨PyData.keyHash P "class._frozen_importlib.BuiltinImporter", .str "class._frozen_importlib.BuiltinImporter" 185, .ref 14⟩, ⟨PyData.keyHash P "watched.\x69mport", .str "watched.\x69mport" 206, .ref 18⟩, ⟨PyData.keyHash P "class._frozen_importlib.ModuleSpec", .str "class._frozen_importlib.ModuleSpec" 216, .ref 22⟩, ⟨PyData.keyHash P "sys.modules.booked-epoch", .str "sys.modules.booked-epoch" 245, .int 4 0⟩, ⟨PyData.keyHash P "\x69mport.later-laid._sre", .str "\x69mport.later-laid._sre" 270, .bool true⟩, ⟨PyData.keyHash P "watched.library", .str "watched.library" 272, .ref 27⟩, ⟨PyData.keyHash P "watched.library-objects", .str "watched.library-objects" 0, .str "\x0c\x1e" 0⟩, ⟨PyData.keyHash P "watched.library-deep._sre", .str "watched.library-deep._sre" 273, .str "\x04\x00\x00\x0b\x04\x00\x00\x0b\x04\x00\x00\x03\x04\x00\x00\x0b\x08\x04dict\x02" 0⟩, ⟨PyData.keyHash P "\x69mport.loaded._collections", .str "\x69mport.loaded._collections" 280, .bool true⟩, ⟨PyData.keyHash P "sys.modules.landed._collections", .str "sys.modules.landed._collections" 294, .bool true⟩, ⟨PyData.keyHash P "\x69mport.later-laid._collections", .str "\x69mport.later-laid._collections" 309, .bool true⟩, ⟨PyData.keyHash P "watched.library-deep._collections", .str "watched.library-deep._collections" 311, .str "\x04\x00\x00\x1d\x04\x00\x00\x1d\x04\x00\x00\x03\x04\x00\x00\x1d\x08\x04dict\x02" 0⟩, ⟨PyData.keyHash P "type.__subclasses__.OSError.0", .str "type.__subclasses__.OSError.0" 417, .int 80 0⟩, ⟨PyData.keyHash P "type.__subclasses__.OSError.n", .str "type.__subclasses__.OSError.n" 418, .int 1 0⟩] 15, #[]⟩
noncomputable def q109 (P : Params) : Obj := ⟨.type "tuple", none, .seq #[] 0, #[]⟩
noncomputable def q184 (P : Params) : Obj := ⟨.type "super", none, .fields #[.ref 127, .ref 127, .ref 127], #[]⟩
noncomputable def q146 (P : Params) : Obj := ⟨.type "code", none, .fields #[.str "__new__" 435, .str "IOBase.__new__" 436, .str "/claim/cut.py" 437, .int 31 0, .int 1 0, .int 1 0, .int 0 0, .int 15 0, .ref 91, .bool true, .int 318 0, .ref 92, .none, .ref 93, .ref 94, .ref 95, .int 441 0, .int 31 0, .str "/claim/cut.py" 442], #[]⟩
noncomputable def q93 (P : Params) : Obj := ⟨.type "tuple", none, .seq #[] 0, #[]⟩
noncomputable def q128 (P : Params) : Obj := ⟨.type "type", none, .cls ⟨"UnsupportedOperation", [.type "OSError", .type "ValueError"], [.ref 80, .type "OSError", .type "ValueError", .type "Exception", .type "BaseException", .type "object"], 79, "UnsupportedOperation", true, [], [], false, none, false⟩, #[some (.ref 71), none, some (.str "UnsupportedOperation" 399), some (.str "UnsupportedOperation" 407), some (.builtin "OSError.__new__"), some (.bool true)]⟩
noncomputable def q165 (P : Params) : Obj := ⟨.type "frame", none, .plain, #[some (.ref 111), some (.ref 3), some (.ref 108), none, some (.str "io" 381), none, some (.ref 0)]⟩
noncomputable def q85 (P : Params) : Obj := ⟨.type "tuple", none, .seq #[.str "k" 327] 0, #[]⟩
noncomputable def q120 (P : Params) : Obj := ⟨.type "builtin_function_or_method", none, .fields #[.builtin "type.__prepare__", .type "type"], #[]⟩
noncomputable def q154 (P : Params) : Obj := ⟨.type "super", none, .fields #[.ref 100, .ref 100, .ref 100], #[]⟩
noncomputable def q101 (P : Params) : Obj := ⟨.type "re.Pattern", none, .fields #[.str "[^\\w@%+=:,./-]" 342, .int 256 379, .int 0 0, .none, .none, .ref 55, .int 0 0], #[]⟩
noncomputable def q138 (P : Params) : Obj := ⟨.none, none, .fields #[.int 31 0, .int 4 0, .ref 96], #[]⟩
noncomputable def q176 (P : Params) : Obj := ⟨.type "dict", none, .dict #[de P "__module__" 478 (.str "io" 483), de P "__qualname__" 480 (.str "TextIOBase" 479), de P "__firstlineno__" 482 (.int 37 481), de P "__static_attributes__" 485 (.ref 125)] 4, #[]⟩
noncomputable def q113 (P : Params) : Obj := fnO (nthS pB 8) fun n a b sc => ⟨.none, none, .func (⟨n, "_index", a, b, sc, 0, [], .none, .none, .none, .none, none, .none, .none, 0⟩), #[]⟩
noncomputable def q173 (P : Params) : Obj := ⟨.type "type", none, .cls ⟨"IOBase", [.type "object"], [.ref 100, .type "object"], 99, "IOBase", true, [], [.ref 115, .ref 127], false, none, false⟩, #[none, none, some (.str "IOBase" 421), some (.str "IOBase" 429), some .none, some (.bool true)]⟩
noncomputable def q97 (P : Params) : Obj := ⟨.type "list", none, .seq #[.int 14 344, .int 17 345, .int 4 346, .int 1 347, .int 1 348, .int 21 349, .int 9 350, .int 0 351, .int 604043296 352, .int 1 353, .int 0 354, .int 0 355, .int 0 356, .int 0 357, .int 0 358, .int 8 359, .int 4 360, .int 0 361, .int 13 362, .int 14 363, .int 21 364, .int 9 365, .int 0 366, .int 604043296 367, .int 1 368, .int 0 369, .int 0 370, .int 0 371, .int 0 372, .int 0 373, .int 8 374, .int 4 375, .int 0 376, .int 1 377] 0, #[]⟩
noncomputable def q134 (P : Params) : Obj := ⟨.type "tuple", none, .seq #[] 0, #[]⟩
noncomputable def q169 (P : Params) : Obj := ⟨.type "super", none, .fields #[.ref 115, .ref 115, .ref 115], #[]⟩
noncomputable def q89 (P : Params) : Obj := fnO (nthS pB 2) fun n a b sc => ⟨.type "function", none, .func (⟨n, "_wall", a, b, sc, 3, [], .none, .none, .none, .str "__main__" 164, none, .ref 43, .none, 0⟩), #[]⟩
noncomputable def q124 (P : Params) : Obj := ⟨.type "code", none, .fields #[.str "UnsupportedOperation" 401, .str "UnsupportedOperation" 402, .str "/claim/cut.py" 403, .int 26 0, .int 0 0, .int 0 0, .int 0 0, .int 0 0, .ref 74, .bool false, .int 318 0, .ref 75, .none, .none, .none, .none, .int 404 0, .int 26 0, .str "/claim/cut.py" 405], #[]⟩
noncomputable def q161 (P : Params) : Obj := ⟨.type "dict", none, .dict #[de P "__module__" 460 (.str "io" 465), de P "__qualname__" 462 (.str "BufferedIOBase" 461), de P "__firstlineno__" 464 (.int 35 463), de P "__static_attributes__" 467 (.ref 113)] 4, #[]⟩
noncomputable def q105 (P : Params) : Obj := ⟨.type "tuple", none, .seq #[] 0, #[]⟩
noncomputable def q142 (P : Params) : Obj := ⟨.none, none, .fields #[], #[]⟩
noncomputable def q180 (P : Params) : Obj := ⟨.type "frame", none, .plain, #[some (.ref 123), some (.ref 3), some (.ref 120), none, some (.str "io" 381), none, some (.ref 0)]⟩
noncomputable def q111 (P : Params) : Obj := ⟨.type "tuple", none, .seq #[.str "n" 394, .str "what" 395] 0, #[]⟩
noncomputable def q148 (P : Params) : Obj := ⟨.type "tuple", none, .seq #[] 0, #[]⟩
noncomputable def q95 (P : Params) : Obj := ⟨.type "code", none, .fields #[.str "replace" 333, .str "replace" 334, .str "/claim/cut.py" 335, .int 7 0, .int 1 0, .int 0 0, .int 0 0, .int 7 0, .ref 45, .bool true, .int 318 0, .ref 46, .none, .ref 47, .ref 48, .ref 49, .int 338 0, .int 7 0, .str "/claim/cut.py" 339], #[]⟩
noncomputable def q130 (P : Params) : Obj := ⟨.type "super", none, .fields #[.ref 80, .ref 80, .ref 80], #[]⟩
noncomputable def q167 (P : Params) : Obj := ⟨.type "dict", none, .dict #[⟨PyData.keyHash P "__module__", .str "__module__" 460, .str "io" 465⟩, ⟨PyData.keyHash P "__firstlineno__", .str "__firstlineno__" 464, .int 35 463⟩, ⟨PyData.keyHash P "__static_attributes__", .str "__static_attributes__" 467, .ref 113⟩, ⟨PyData.keyHash P "__doc__", .str "__doc__" 468, .none⟩] 2, #[]⟩
noncomputable def q87 (P : Params) : Obj := fnO (nthS pB 2) fun n a b sc => ⟨.none, none, .func (⟨n, "_wall", a, b, sc, 0, [], .none, .none, .none, .none, none, .none, .none, 0⟩), #[]⟩
noncomputable def q122 (P : Params) : Obj := ⟨.type "tuple", none, .seq #[] 0, #[]⟩
noncomputable def q159 (P : Params) : Obj := ⟨.type "tuple", none, .seq #[.ref 100] 0, #[]⟩
noncomputable def q103 (P : Params) : Obj := ⟨.none, none, .fields #[], #[]⟩
noncomputable def q140 (P : Params) : Obj := ⟨.type "frame", none, .plain, #[some (.ref 89), some (.ref 3), some (.ref 86), none, some (.str "io" 381), none, some (.ref 0)]⟩
noncomputable def q178 (P : Params) : Obj := ⟨.none, none, .fields #[], #[]⟩
noncomputable def q83 (P : Params) : Obj := ⟨.type "tuple", none, .seq #[] 0, #[]⟩
noncomputable def q115 (P : Params) : Obj := fnO (nthS pB 8) fun n a b sc => ⟨.type "function", none, .func (⟨n, "_index", a, b, sc, 3, [], .none, .none, .none, .str "io" 381, none, .ref 69, .none, 0⟩), #[]⟩
noncomputable def q152 (P : Params) : Obj := ⟨.type "getset_descriptor", none, .fields #[.str "__dict__" 446, .ref 100, .builtin "function.__dict__", .builtin "function.__dict__#set"], #[]⟩
noncomputable def q99 (P : Params) : Obj := ⟨.type "tuple", none, .seq #[.none] 0, #[]⟩
noncomputable def q136 (P : Params) : Obj := ⟨.type "dict", none, .dict #[de P "__module__" 428 (.str "io" 433), de P "__qualname__" 430 (.str "IOBase" 429), de P "__firstlineno__" 432 (.int 28 431), de P "__new__" 443 (.ref 97), de P "__static_attributes__" 444 (.ref 98)] 5, #[]⟩
noncomputable def q174 (P : Params) : Obj := ⟨.type "tuple", none, .seq #[.ref 100] 0, #[]⟩
noncomputable def q91 (P : Params) : Obj := ⟨.none, none, .fields #[], #[]⟩
noncomputable def q126 (P : Params) : Obj := ⟨.type "tuple", none, .seq #[] 0, #[]⟩
noncomputable def q163 (P : Params) : Obj := ⟨.none, none, .fields #[], #[]⟩
noncomputable def q107 (P : Params) : Obj := ⟨.type "code", none, .fields #[.str "_whence" 383, .str "_whence" 384, .str "/claim/cut.py" 385, .int 14 0, .int 2 0, .int 0 0, .int 0 0, .int 3 0, .ref 57, .bool true, .int 318 0, .ref 58, .none, .ref 59, .ref 60, .ref 61, .int 388 0, .int 14 0, .str "/claim/cut.py" 389], #[]⟩
noncomputable def q144 (P : Params) : Obj := ⟨.type "tuple", none, .seq #[] 0, #[]⟩
noncomputable def q182 (P : Params) : Obj := ⟨.type "dict", none, .dict #[⟨PyData.keyHash P "__module__", .str "__module__" 478, .str "io" 483⟩, ⟨PyData.keyHash P "__firstlineno__", .str "__firstlineno__" 482, .int 37 481⟩, ⟨PyData.keyHash P "__static_attributes__", .str "__static_attributes__" 485, .ref 125⟩, ⟨PyData.keyHash P "__doc__", .str "__doc__" 486, .none⟩] 2, #[]⟩
noncomputable def q186 (P : Params) : Obj := ⟨.type "dict", none, .dict #[de P "__name__" 165 (.str "io" 381), de P "__doc__" 166 .none, de P "__package__" 167 .none, de P "__loader__" 168 (.builtin "__main__.__loader__#opaque"), de P "__spec__" 169 .none, de P "__annotations__" 170 (.ref 6), de P "__builtins__" 171 (.ref 4), de P "__file__" 173 (.str "/claim/cut.py" 172), de P "__cached__" 174 .none, de P "_sre" 275 (.ref 12), de P "deque" 317 (.type "collections.deque"), de P "_wall" 330 (.ref 44), de P "replace" 340 (.ref 51), de P "_twin_re_1" 380 (.ref 56), de P "_whence" 390 (.ref 63), de P "_index" 398 (.ref 70), de P "UnsupportedOperation" 420 (.ref 80), de P "IOBase" 452 (.ref 100), de P "BufferedIOBase" 470 (.ref 115), de P "TextIOBase" 488 (.ref 127), de P "BytesIO" 750 (.ref 357)] 21, #[]⟩
noncomputable def q314 (P : Params) : Obj := fnO (nthS (inS (nthS pB 13)) 17) fun n a b sc => ⟨.none, none, .func (⟨n, "BytesIO.tell", a, b, sc, 0, [], .none, .none, .none, .none, none, .none, .none, 0⟩), #[]⟩
noncomputable def q250 (P : Params) : Obj := ⟨.type "tuple", none, .seq #[] 0, #[]⟩
noncomputable def q378 (P : Params) : Obj := fnO (nthS (inS (nthS pB 13)) 25) fun n a b sc => ⟨.type "function", none, .func (⟨n, "BytesIO.readlines", a, b, sc, 3, [], .ref 312, .none, .none, .str "io" 381, none, .ref 318, .none, 0⟩), #[]⟩
noncomputable def q218 (P : Params) : Obj := ⟨.type "tuple", none, .seq #[] 0, #[]⟩
noncomputable def q346 (P : Params) : Obj := fnO (nthS (inS (nthS pB 13)) 21) fun n a b sc => ⟨.none, none, .func (⟨n, "BytesIO.read1", a, b, sc, 0, [], .none, .none, .none, .none, none, .none, .none, 0⟩), #[]⟩
noncomputable def q282 (P : Params) : Obj := ⟨.type "tuple", none, .seq #[] 0, #[]⟩
noncomputable def q410 (P : Params) : Obj := ⟨.type "tuple", none, .seq #[] 0, #[]⟩
noncomputable def q202 (P : Params) : Obj := ⟨.type "code", none, .fields #[.str "__init__" 503, .str "BytesIO.__init__" 504, .str "/claim/cut.py" 505, .int 42 0, .int 2 0, .int 0 0, .int 0 0, .int 3 0, .ref 138, .bool true, .int 318 0, .ref 139, .none, .ref 140, .ref 141, .ref 142, .int 508 0, .int 42 0, .str "/claim/cut.py" 509], #[]⟩
noncomputable def q330 (P : Params) : Obj := fnO (nthS (inS (nthS pB 13)) 19) fun n a b sc => ⟨.none, none, .func (⟨n, "BytesIO.truncate", a, b, sc, 0, [], .none, .none, .none, .none, none, .none, .none, 0⟩), #[]⟩
noncomputable def q266 (P : Params) : Obj := ⟨.type "code", none, .fields #[.str "seekable" 573, .str "BytesIO.seekable" 574, .str "/claim/cut.py" 575, .int 87 0, .int 1 0, .int 0 0, .int 0 0, .int 3 0, .ref 202, .bool true, .int 318 0, .ref 203, .none, .ref 204, .ref 205, .ref 206, .int 577 0, .int 87 0, .str "/claim/cut.py" 578], #[]⟩
noncomputable def q394 (P : Params) : Obj := ⟨.none, none, .fields #[], #[]⟩
noncomputable def q234 (P : Params) : Obj := ⟨.none, none, .fields #[], #[]⟩
noncomputable def q362 (P : Params) : Obj := fnO (nthS (inS (nthS pB 13)) 23) fun n a b sc => ⟨.type "function", none, .func (⟨n, "BytesIO.readinto1", a, b, sc, 3, [], .none, .none, .none, .str "io" 381, none, .ref 302, .none, 0⟩), #[]⟩
noncomputable def q298 (P : Params) : Obj := ⟨.type "tuple", none, .seq #[.str "self" 611] 0, #[]⟩
noncomputable def q194 (P : Params) : Obj := ⟨.type "code", none, .fields #[.str "BytesIO" 491, .str "BytesIO" 492, .str "/claim/cut.py" 493, .int 39 0, .int 0 0, .int 0 0, .int 0 0, .int 0 0, .ref 133, .bool false, .int 318 0, .ref 134, .none, .none, .none, .none, .int 494 0, .int 39 0, .str "/claim/cut.py" 495], #[]⟩
noncomputable def q322 (P : Params) : Obj := fnO (nthS (inS (nthS pB 13)) 18) fun n a b sc => ⟨.none, none, .func (⟨n, "BytesIO.seek", a, b, sc, 0, [], .none, .none, .none, .none, none, .none, .none, 0⟩), #[]⟩
noncomputable def q258 (P : Params) : Obj := fnO (nthS (inS (nthS pB 13)) 9) fun n a b sc => ⟨.none, none, .func (⟨n, "BytesIO.writable", a, b, sc, 0, [], .none, .none, .none, .none, none, .none, .none, 0⟩), #[]⟩
noncomputable def q386 (P : Params) : Obj := ⟨.type "tuple", none, .seq #[] 0, #[]⟩
noncomputable def q226 (P : Params) : Obj := ⟨.type "tuple", none, .seq #[] 0, #[]⟩
noncomputable def q354 (P : Params) : Obj := ⟨.type "code", none, .fields #[.str "readinto" 669, .str "BytesIO.readinto" 670, .str "/claim/cut.py" 671, .int 151 0, .int 2 0, .int 2 0, .int 0 0, .int 3 0, .ref 290, .bool true, .int 318 0, .ref 291, .none, .ref 292, .ref 293, .ref 294, .int 676 0, .int 151 0, .str "/claim/cut.py" 677], #[]⟩
noncomputable def q290 (P : Params) : Obj := ⟨.none, none, .fields #[], #[]⟩
noncomputable def q418 (P : Params) : Obj := ⟨.type "builtin_function_or_method", none, .fields #[.builtin "object.__init_subclass__", .ref 357], #[]⟩
noncomputable def q210 (P : Params) : Obj := fnO (nthS (inS (nthS pB 13)) 2) fun n a b sc => ⟨.type "function", none, .func (⟨n, "BytesIO.__check", a, b, sc, 3, [], .none, .none, .none, .str "io" 381, none, .ref 150, .none, 0⟩), #[]⟩
noncomputable def q338 (P : Params) : Obj := fnO (nthS (inS (nthS pB 13)) 20) fun n a b sc => ⟨.none, none, .func (⟨n, "BytesIO.read", a, b, sc, 0, [], .none, .none, .none, .none, none, .none, .none, 0⟩), #[]⟩
noncomputable def q274 (P : Params) : Obj := fnO (nthS (inS (nthS pB 13)) 11) fun n a b sc => ⟨.type "function", none, .func (⟨n, "BytesIO.isatty", a, b, sc, 3, [], .none, .none, .none, .str "io" 381, none, .ref 214, .none, 0⟩), #[]⟩
noncomputable def q402 (P : Params) : Obj := ⟨.type "tuple", none, .seq #[.str "self" 733, .str "lines" 734] 0, #[]⟩
noncomputable def q242 (P : Params) : Obj := ⟨.type "tuple", none, .seq #[.str "self" 554, .str "args" 555] 0, #[]⟩
noncomputable def q370 (P : Params) : Obj := fnO (nthS (inS (nthS pB 13)) 24) fun n a b sc => ⟨.type "function", none, .func (⟨n, "BytesIO.readline", a, b, sc, 3, [], .ref 304, .none, .none, .str "io" 381, none, .ref 310, .none, 0⟩), #[]⟩
noncomputable def q306 (P : Params) : Obj := ⟨.type "tuple", none, .seq #[] 0, #[]⟩
noncomputable def q187 (P : Params) : Obj := ⟨.none, none, .fields #[.int 3 0, .int 0 0, .ref 43, .int 7 0, .int 0 0, .ref 50, .int 14 0, .int 0 0, .ref 62, .int 19 0, .int 0 0, .ref 69, .int 26 0, .int 0 0, .ref 76, .int 28 0, .int 0 0, .ref 89, .int 35 0, .int 0 0, .ref 111, .int 37 0, .int 0 0, .ref 123, .int 39 0, .int 0 0, .ref 135], #[]⟩
noncomputable def q190 (P : Params) : Obj := ⟨.type "builtin_function_or_method", none, .fields #[.builtin "type.__prepare__", .type "type"], #[]⟩
noncomputable def q318 (P : Params) : Obj := ⟨.type "tuple", none, .seq #[] 0, #[]⟩
noncomputable def q254 (P : Params) : Obj := ⟨.type "tuple", none, .seq #[] 0, #[]⟩
noncomputable def q382 (P : Params) : Obj := ⟨.type "tuple", none, .seq #[] 0, #[]⟩
noncomputable def q222 (P : Params) : Obj := fnO (nthS (inS (nthS pB 13)) 4) fun n a b sc => ⟨.none, none, .func (⟨n, "BytesIO.closed", a, b, sc, 0, [], .none, .none, .none, .none, none, .none, .none, 0⟩), #[]⟩
noncomputable def q350 (P : Params) : Obj := ⟨.none, none, .fields #[], #[]⟩
noncomputable def q286 (P : Params) : Obj := fnO (nthS (inS (nthS pB 13)) 13) fun n a b sc => ⟨.none, none, .func (⟨n, "BytesIO.fileno", a, b, sc, 0, [], .none, .none, .none, .none, none, .none, .none, 0⟩), #[]⟩
noncomputable def q414 (P : Params) : Obj := ⟨.type "tuple", none, .seq #[.str "__buf" 745, .str "__pos" 746] 0, #[]⟩
noncomputable def q206 (P : Params) : Obj := ⟨.type "tuple", none, .seq #[.str "self" 514] 0, #[]⟩
noncomputable def q334 (P : Params) : Obj := ⟨.type "tuple", none, .seq #[] 0, #[]⟩
noncomputable def q270 (P : Params) : Obj := ⟨.type "tuple", none, .seq #[.str "self" 583] 0, #[]⟩
noncomputable def q398 (P : Params) : Obj := ⟨.type "code", none, .fields #[.str "write" 720, .str "BytesIO.write" 721, .str "/claim/cut.py" 722, .int 188 0, .int 2 0, .int 2 0, .int 0 0, .int 3 0, .ref 334, .bool true, .int 318 0, .ref 335, .none, .ref 336, .ref 337, .ref 338, .int 727 0, .int 188 0, .str "/claim/cut.py" 728], #[]⟩
noncomputable def q188 (P : Params) : Obj := ⟨.type "type", none, .cls ⟨"BufferedIOBase", [.ref 100], [.ref 115, .ref 100, .type "object"], 114, "BufferedIOBase", true, [], [.ref 357], false, none, false⟩, #[some (.ref 106), none, some (.str "BufferedIOBase" 453), some (.str "BufferedIOBase" 461), some .none, some (.bool true)]⟩
noncomputable def q238 (P : Params) : Obj := ⟨.type "code", none, .fields #[.str "__enter__" 544, .str "BytesIO.__enter__" 545, .str "/claim/cut.py" 546, .int 72 0, .int 1 0, .int 0 0, .int 0 0, .int 3 0, .ref 174, .bool true, .int 318 0, .ref 175, .none, .ref 176, .ref 177, .ref 178, .int 548 0, .int 72 0, .str "/claim/cut.py" 549], #[]⟩
noncomputable def q366 (P : Params) : Obj := ⟨.type "tuple", none, .seq #[.str "self" 692, .str "size" 693] 0, #[]⟩
noncomputable def q302 (P : Params) : Obj := fnO (nthS (inS (nthS pB 13)) 15) fun n a b sc => ⟨.type "function", none, .func (⟨n, "BytesIO.getvalue", a, b, sc, 3, [], .none, .none, .none, .str "io" 381, none, .ref 242, .none, 0⟩), #[]⟩
noncomputable def q198 (P : Params) : Obj := ⟨.none, none, .fields #[], #[]⟩
noncomputable def q326 (P : Params) : Obj := ⟨.type "tuple", none, .seq #[] 0, #[]⟩
noncomputable def q262 (P : Params) : Obj := ⟨.none, none, .fields #[], #[]⟩
noncomputable def q390 (P : Params) : Obj := fnO (nthS (inS (nthS pB 13)) 27) fun n a b sc => ⟨.none, none, .func (⟨n, "BytesIO.__next__", a, b, sc, 0, [], .none, .none, .none, .none, none, .none, .none, 0⟩), #[]⟩
noncomputable def q230 (P : Params) : Obj := fnO (nthS (inS (nthS pB 13)) 5) fun n a b sc => ⟨.none, none, .func (⟨n, "BytesIO.close", a, b, sc, 0, [], .none, .none, .none, .none, none, .none, .none, 0⟩), #[]⟩
noncomputable def q358 (P : Params) : Obj := ⟨.type "tuple", none, .seq #[.str "self" 682, .str "buffer" 683] 0, #[]⟩
noncomputable def q294 (P : Params) : Obj := ⟨.type "code", none, .fields #[.str "detach" 601, .str "BytesIO.detach" 602, .str "/claim/cut.py" 603, .int 101 0, .int 1 0, .int 0 0, .int 0 0, .int 3 0, .ref 230, .bool true, .int 318 0, .ref 231, .none, .ref 232, .ref 233, .ref 234, .int 605 0, .int 101 0, .str "/claim/cut.py" 606], #[]⟩
noncomputable def q214 (P : Params) : Obj := ⟨.type "tuple", none, .seq #[] 0, #[]⟩
noncomputable def q342 (P : Params) : Obj := ⟨.type "tuple", none, .seq #[] 0, #[]⟩
noncomputable def q278 (P : Params) : Obj := ⟨.type "tuple", none, .seq #[] 0, #[]⟩
noncomputable def q406 (P : Params) : Obj := fnO (nthS (inS (nthS pB 13)) 29) fun n a b sc => ⟨.type "function", none, .func (⟨n, "BytesIO.writelines", a, b, sc, 3, [], .none, .none, .none, .str "io" 381, none, .ref 346, .none, 0⟩), #[]⟩
noncomputable def q246 (P : Params) : Obj := fnO (nthS (inS (nthS pB 13)) 7) fun n a b sc => ⟨.type "function", none, .func (⟨n, "BytesIO.__exit__", a, b, sc, 3, [], .none, .none, .none, .str "io" 381, none, .ref 186, .none, 0⟩), #[]⟩
noncomputable def q374 (P : Params) : Obj := ⟨.type "tuple", none, .seq #[.str "self" 700, .str "size" 701] 0, #[]⟩
noncomputable def q310 (P : Params) : Obj := ⟨.type "tuple", none, .seq #[] 0, #[]⟩
noncomputable def q316 (P : Params) : Obj := fnO (nthS (inS (nthS pB 13)) 17) fun n a b sc => ⟨.type "function", none, .func (⟨n, "BytesIO.tell", a, b, sc, 3, [], .none, .none, .none, .str "io" 381, none, .ref 256, .none, 0⟩), #[]⟩
noncomputable def q252 (P : Params) : Obj := ⟨.type "code", none, .fields #[.str "readable" 559, .str "BytesIO.readable" 560, .str "/claim/cut.py" 561, .int 79 0, .int 1 0, .int 0 0, .int 0 0, .int 3 0, .ref 188, .bool true, .int 318 0, .ref 189, .none, .ref 190, .ref 191, .ref 192, .int 563 0, .int 79 0, .str "/claim/cut.py" 564], #[]⟩
noncomputable def q380 (P : Params) : Obj := ⟨.none, none, .fields #[], #[]⟩
noncomputable def q220 (P : Params) : Obj := ⟨.type "tuple", none, .seq #[.str "self" 532] 0, #[]⟩
noncomputable def q348 (P : Params) : Obj := fnO (nthS (inS (nthS pB 13)) 21) fun n a b sc => ⟨.type "function", none, .func (⟨n, "BytesIO.read1", a, b, sc, 3, [], .ref 282, .none, .none, .str "io" 381, none, .ref 288, .none, 0⟩), #[]⟩
noncomputable def q284 (P : Params) : Obj := ⟨.type "tuple", none, .seq #[.str "self" 597] 0, #[]⟩
noncomputable def q412 (P : Params) : Obj := ⟨.type "code", none, .fields #[.str "__repr__" 738, .str "BytesIO.__repr__" 739, .str "/claim/cut.py" 740, .int 207 0, .int 1 0, .int 0 0, .int 0 0, .int 3 0, .ref 348, .bool true, .int 318 0, .ref 349, .none, .ref 350, .ref 351, .ref 352, .int 742 0, .int 207 0, .str "/claim/cut.py" 743], #[]⟩
noncomputable def q204 (P : Params) : Obj := ⟨.type "tuple", none, .seq #[] 0, #[]⟩
noncomputable def q332 (P : Params) : Obj := fnO (nthS (inS (nthS pB 13)) 19) fun n a b sc => ⟨.type "function", none, .func (⟨n, "BytesIO.truncate", a, b, sc, 3, [], .ref 266, .none, .none, .str "io" 381, none, .ref 272, .none, 0⟩), #[]⟩
noncomputable def q268 (P : Params) : Obj := ⟨.type "tuple", none, .seq #[] 0, #[]⟩
noncomputable def q396 (P : Params) : Obj := ⟨.type "tuple", none, .seq #[] 0, #[]⟩
noncomputable def q236 (P : Params) : Obj := ⟨.type "tuple", none, .seq #[] 0, #[]⟩
noncomputable def q364 (P : Params) : Obj := ⟨.type "tuple", none, .seq #[] 0, #[]⟩
noncomputable def q300 (P : Params) : Obj := fnO (nthS (inS (nthS pB 13)) 15) fun n a b sc => ⟨.none, none, .func (⟨n, "BytesIO.getvalue", a, b, sc, 0, [], .none, .none, .none, .none, none, .none, .none, 0⟩), #[]⟩
noncomputable def q196 (P : Params) : Obj := ⟨.type "tuple", none, .seq #[.none] 0, #[]⟩
noncomputable def q324 (P : Params) : Obj := fnO (nthS (inS (nthS pB 13)) 18) fun n a b sc => ⟨.type "function", none, .func (⟨n, "BytesIO.seek", a, b, sc, 3, [], .ref 258, .none, .none, .str "io" 381, none, .ref 264, .none, 0⟩), #[]⟩
noncomputable def q260 (P : Params) : Obj := fnO (nthS (inS (nthS pB 13)) 9) fun n a b sc => ⟨.type "function", none, .func (⟨n, "BytesIO.writable", a, b, sc, 3, [], .none, .none, .none, .str "io" 381, none, .ref 200, .none, 0⟩), #[]⟩
noncomputable def q388 (P : Params) : Obj := ⟨.type "tuple", none, .seq #[.str "self" 715, .str "line" 716] 0, #[]⟩
noncomputable def q228 (P : Params) : Obj := ⟨.type "tuple", none, .seq #[.str "self" 540] 0, #[]⟩
noncomputable def q356 (P : Params) : Obj := ⟨.type "tuple", none, .seq #[] 0, #[]⟩
noncomputable def q292 (P : Params) : Obj := ⟨.type "tuple", none, .seq #[] 0, #[]⟩
noncomputable def q212 (P : Params) : Obj := ⟨.none, none, .fields #[], #[]⟩
noncomputable def q340 (P : Params) : Obj := fnO (nthS (inS (nthS pB 13)) 20) fun n a b sc => ⟨.type "function", none, .func (⟨n, "BytesIO.read", a, b, sc, 3, [], .ref 274, .none, .none, .str "io" 381, none, .ref 280, .none, 0⟩), #[]⟩
noncomputable def q276 (P : Params) : Obj := ⟨.none, none, .fields #[], #[]⟩
noncomputable def q404 (P : Params) : Obj := fnO (nthS (inS (nthS pB 13)) 29) fun n a b sc => ⟨.none, none, .func (⟨n, "BytesIO.writelines", a, b, sc, 0, [], .none, .none, .none, .none, none, .none, .none, 0⟩), #[]⟩
noncomputable def q244 (P : Params) : Obj := fnO (nthS (inS (nthS pB 13)) 7) fun n a b sc => ⟨.none, none, .func (⟨n, "BytesIO.__exit__", a, b, sc, 0, [], .none, .none, .none, .none, none, .none, .none, 0⟩), #[]⟩
noncomputable def q372 (P : Params) : Obj := ⟨.type "tuple", none, .seq #[] 0, #[]⟩
noncomputable def q308 (P : Params) : Obj := ⟨.type "code", none, .fields #[.str "getbuffer" 615, .str "BytesIO.getbuffer" 616, .str "/claim/cut.py" 617, .int 107 0, .int 1 0, .int 0 0, .int 0 0, .int 3 0, .ref 244, .bool true, .int 318 0, .ref 245, .none, .ref 246, .ref 247, .ref 248, .int 619 0, .int 107 0, .str "/claim/cut.py" 620], #[]⟩
noncomputable def q192 (P : Params) : Obj := ⟨.type "tuple", none, .seq #[] 0, #[]⟩
noncomputable def q320 (P : Params) : Obj := ⟨.type "tuple", none, .seq #[.str "self" 633, .str "pos" 634, .str "whence" 635] 0, #[]⟩
noncomputable def q256 (P : Params) : Obj := ⟨.type "tuple", none, .seq #[.str "self" 569] 0, #[]⟩
noncomputable def q384 (P : Params) : Obj := ⟨.type "code", none, .fields #[.str "__iter__" 705, .str "BytesIO.__iter__" 706, .str "/claim/cut.py" 707, .int 178 0, .int 1 0, .int 0 0, .int 0 0, .int 3 0, .ref 320, .bool true, .int 318 0, .ref 321, .none, .ref 322, .ref 323, .ref 324, .int 709 0, .int 178 0, .str "/claim/cut.py" 710], #[]⟩
noncomputable def q224 (P : Params) : Obj := fnO (nthS (inS (nthS pB 13)) 4) fun n a b sc => ⟨.type "function", none, .func (⟨n, "BytesIO.closed", a, b, sc, 3, [], .none, .none, .none, .str "io" 381, none, .ref 164, .none, 0⟩), #[]⟩
noncomputable def q352 (P : Params) : Obj := ⟨.type "tuple", none, .seq #[] 0, #[]⟩
noncomputable def q288 (P : Params) : Obj := fnO (nthS (inS (nthS pB 13)) 13) fun n a b sc => ⟨.type "function", none, .func (⟨n, "BytesIO.fileno", a, b, sc, 3, [], .none, .none, .none, .str "io" 381, none, .ref 228, .none, 0⟩), #[]⟩
noncomputable def q416 (P : Params) : Obj := ⟨.type "type", none, .cls ⟨"BytesIO", [.ref 115], [.ref 357, .ref 115, .ref 100, .type "object"], 356, "BytesIO", true, [], [], false, none, false⟩, #[some (.ref 130), none, some (.str "BytesIO" 489), some (.str "BytesIO" 497), some .none, some (.bool true)]⟩
noncomputable def q208 (P : Params) : Obj := fnO (nthS (inS (nthS pB 13)) 2) fun n a b sc => ⟨.none, none, .func (⟨n, "BytesIO.__check", a, b, sc, 0, [], .none, .none, .none, .none, none, .none, .none, 0⟩), #[]⟩
noncomputable def q336 (P : Params) : Obj := ⟨.type "tuple", none, .seq #[.str "self" 652, .str "size" 653, .str "start" 654, .str "stop" 655] 0, #[]⟩
noncomputable def q272 (P : Params) : Obj := fnO (nthS (inS (nthS pB 13)) 11) fun n a b sc => ⟨.none, none, .func (⟨n, "BytesIO.isatty", a, b, sc, 0, [], .none, .none, .none, .none, none, .none, .none, 0⟩), #[]⟩
noncomputable def q400 (P : Params) : Obj := ⟨.type "tuple", none, .seq #[] 0, #[]⟩
noncomputable def q240 (P : Params) : Obj := ⟨.type "tuple", none, .seq #[] 0, #[]⟩
noncomputable def q368 (P : Params) : Obj := fnO (nthS (inS (nthS pB 13)) 24) fun n a b sc => ⟨.none, none, .func (⟨n, "BytesIO.readline", a, b, sc, 0, [], .none, .none, .none, .none, none, .none, .none, 0⟩), #[]⟩
noncomputable def q304 (P : Params) : Obj := ⟨.none, none, .fields #[], #[]⟩
noncomputable def q200 (P : Params) : Obj := ⟨.type "tuple", none, .seq #[] 0, #[]⟩
noncomputable def q328 (P : Params) : Obj := ⟨.type "tuple", none, .seq #[.str "self" 642, .str "size" 643] 0, #[]⟩
noncomputable def q264 (P : Params) : Obj := ⟨.type "tuple", none, .seq #[] 0, #[]⟩
noncomputable def q392 (P : Params) : Obj := fnO (nthS (inS (nthS pB 13)) 27) fun n a b sc => ⟨.type "function", none, .func (⟨n, "BytesIO.__next__", a, b, sc, 3, [], .none, .none, .none, .str "io" 381, none, .ref 332, .none, 0⟩), #[]⟩
noncomputable def q232 (P : Params) : Obj := fnO (nthS (inS (nthS pB 13)) 5) fun n a b sc => ⟨.type "function", none, .func (⟨n, "BytesIO.close", a, b, sc, 3, [], .none, .none, .none, .str "io" 381, none, .ref 172, .none, 0⟩), #[]⟩
noncomputable def q360 (P : Params) : Obj := fnO (nthS (inS (nthS pB 13)) 23) fun n a b sc => ⟨.none, none, .func (⟨n, "BytesIO.readinto1", a, b, sc, 0, [], .none, .none, .none, .none, none, .none, .none, 0⟩), #[]⟩
noncomputable def q296 (P : Params) : Obj := ⟨.type "tuple", none, .seq #[] 0, #[]⟩
noncomputable def q216 (P : Params) : Obj := ⟨.type "code", none, .fields #[.str "__line" 518, .str "BytesIO.__line" 519, .str "/claim/cut.py" 520, .int 52 0, .int 2 0, .int 0 0, .int 0 0, .int 3 0, .ref 152, .bool true, .int 318 0, .ref 153, .none, .ref 154, .ref 155, .ref 156, .int 526 0, .int 52 0, .str "/claim/cut.py" 527], #[]⟩
noncomputable def q344 (P : Params) : Obj := ⟨.type "tuple", none, .seq #[.str "self" 664, .str "size" 665] 0, #[]⟩
noncomputable def q280 (P : Params) : Obj := ⟨.type "code", none, .fields #[.str "flush" 587, .str "BytesIO.flush" 588, .str "/claim/cut.py" 589, .int 95 0, .int 1 0, .int 0 0, .int 0 0, .int 3 0, .ref 216, .bool true, .int 318 0, .ref 217, .none, .ref 218, .ref 219, .ref 220, .int 591 0, .int 95 0, .str "/claim/cut.py" 592], #[]⟩
noncomputable def q408 (P : Params) : Obj := ⟨.none, none, .fields #[], #[]⟩
noncomputable def q248 (P : Params) : Obj := ⟨.none, none, .fields #[], #[]⟩
noncomputable def q376 (P : Params) : Obj := fnO (nthS (inS (nthS pB 13)) 25) fun n a b sc => ⟨.none, none, .func (⟨n, "BytesIO.readlines", a, b, sc, 0, [], .none, .none, .none, .none, none, .none, .none, 0⟩), #[]⟩
noncomputable def q312 (P : Params) : Obj := ⟨.type "tuple", none, .seq #[.str "self" 625] 0, #[]⟩
noncomputable def q315 (P : Params) : Obj := ⟨.type "code", none, .fields #[.str "tell" 622, .str "BytesIO.tell" 623, .str "/claim/cut.py" 624, .int 110 0, .int 1 0, .int 0 0, .int 0 0, .int 3 0, .ref 251, .bool true, .int 318 0, .ref 252, .none, .ref 253, .ref 254, .ref 255, .int 626 0, .int 110 0, .str "/claim/cut.py" 627], #[]⟩
noncomputable def q251 (P : Params) : Obj := fnO (nthS (inS (nthS pB 13)) 8) fun n a b sc => ⟨.none, none, .func (⟨n, "BytesIO.readable", a, b, sc, 0, [], .none, .none, .none, .none, none, .none, .none, 0⟩), #[]⟩
noncomputable def q379 (P : Params) : Obj := ⟨.type "tuple", none, .seq #[] 0, #[]⟩
noncomputable def q219 (P : Params) : Obj := ⟨.none, none, .fields #[], #[]⟩
noncomputable def q347 (P : Params) : Obj := ⟨.type "code", none, .fields #[.str "read1" 661, .str "BytesIO.read1" 662, .str "/claim/cut.py" 663, .int 148 0, .int 2 0, .int 2 0, .int 0 0, .int 3 0, .ref 283, .bool true, .int 318 0, .ref 284, .none, .ref 285, .ref 286, .ref 287, .int 666 0, .int 148 0, .str "/claim/cut.py" 667], #[]⟩
noncomputable def q283 (P : Params) : Obj := ⟨.none, none, .fields #[], #[]⟩
noncomputable def q411 (P : Params) : Obj := fnO (nthS (inS (nthS pB 13)) 30) fun n a b sc => ⟨.none, none, .func (⟨n, "BytesIO.__repr__", a, b, sc, 0, [], .none, .none, .none, .none, none, .none, .none, 0⟩), #[]⟩
noncomputable def q203 (P : Params) : Obj := fnO (nthS (inS (nthS pB 13)) 1) fun n a b sc => ⟨.type "function", none, .func (⟨n, "BytesIO.__init__", a, b, sc, 3, [], .ref 137, .none, .none, .str "io" 381, none, .ref 143, .none, 0⟩), #[]⟩
noncomputable def q331 (P : Params) : Obj := ⟨.type "code", none, .fields #[.str "truncate" 639, .str "BytesIO.truncate" 640, .str "/claim/cut.py" 641, .int 131 0, .int 2 0, .int 2 0, .int 0 0, .int 3 0, .ref 267, .bool true, .int 318 0, .ref 268, .none, .ref 269, .ref 270, .ref 271, .int 644 0, .int 131 0, .str "/claim/cut.py" 645], #[]⟩
noncomputable def q267 (P : Params) : Obj := fnO (nthS (inS (nthS pB 13)) 10) fun n a b sc => ⟨.type "function", none, .func (⟨n, "BytesIO.seekable", a, b, sc, 3, [], .none, .none, .none, .str "io" 381, none, .ref 207, .none, 0⟩), #[]⟩
noncomputable def q395 (P : Params) : Obj := ⟨.type "tuple", none, .seq #[.str "self" 723, .str "b" 724, .str "n" 725, .str "start" 726] 0, #[]⟩
noncomputable def q235 (P : Params) : Obj := ⟨.type "tuple", none, .seq #[.str "self" 547] 0, #[]⟩
noncomputable def q363 (P : Params) : Obj := ⟨.type "tuple", none, .seq #[.int (-1) 688] 0, #[]⟩
noncomputable def q299 (P : Params) : Obj := ⟨.type "tuple", none, .seq #[] 0, #[]⟩
noncomputable def q195 (P : Params) : Obj := ⟨.type "frame", none, .plain, #[some (.ref 135), some (.ref 3), some (.ref 132), none, some (.str "io" 381), none, some (.ref 0)]⟩
noncomputable def q323 (P : Params) : Obj := ⟨.type "code", none, .fields #[.str "seek" 630, .str "BytesIO.seek" 631, .str "/claim/cut.py" 632, .int 114 0, .int 3 0, .int 3 0, .int 0 0, .int 3 0, .ref 259, .bool true, .int 318 0, .ref 260, .none, .ref 261, .ref 262, .ref 263, .int 636 0, .int 114 0, .str "/claim/cut.py" 637], #[]⟩
noncomputable def q259 (P : Params) : Obj := ⟨.type "code", none, .fields #[.str "writable" 566, .str "BytesIO.writable" 567, .str "/claim/cut.py" 568, .int 83 0, .int 1 0, .int 0 0, .int 0 0, .int 3 0, .ref 195, .bool true, .int 318 0, .ref 196, .none, .ref 197, .ref 198, .ref 199, .int 570 0, .int 83 0, .str "/claim/cut.py" 571], #[]⟩
noncomputable def q387 (P : Params) : Obj := ⟨.none, none, .fields #[], #[]⟩
noncomputable def q227 (P : Params) : Obj := ⟨.none, none, .fields #[], #[]⟩
noncomputable def q355 (P : Params) : Obj := fnO (nthS (inS (nthS pB 13)) 22) fun n a b sc => ⟨.type "function", none, .func (⟨n, "BytesIO.readinto", a, b, sc, 3, [], .none, .none, .none, .str "io" 381, none, .ref 295, .none, 0⟩), #[]⟩
noncomputable def q291 (P : Params) : Obj := ⟨.type "tuple", none, .seq #[.str "self" 604] 0, #[]⟩
noncomputable def q211 (P : Params) : Obj := ⟨.type "tuple", none, .seq #[] 0, #[]⟩
noncomputable def q339 (P : Params) : Obj := ⟨.type "code", none, .fields #[.str "read" 649, .str "BytesIO.read" 650, .str "/claim/cut.py" 651, .int 134 0, .int 2 0, .int 2 0, .int 0 0, .int 3 0, .ref 275, .bool true, .int 318 0, .ref 276, .none, .ref 277, .ref 278, .ref 279, .int 656 0, .int 134 0, .str "/claim/cut.py" 657], #[]⟩
noncomputable def q275 (P : Params) : Obj := ⟨.type "tuple", none, .seq #[] 0, #[]⟩
noncomputable def q403 (P : Params) : Obj := ⟨.type "tuple", none, .seq #[] 0, #[]⟩
noncomputable def q243 (P : Params) : Obj := ⟨.type "tuple", none, .seq #[] 0, #[]⟩
noncomputable def q371 (P : Params) : Obj := ⟨.type "tuple", none, .seq #[.none] 0, #[]⟩
noncomputable def q307 (P : Params) : Obj := fnO (nthS (inS (nthS pB 13)) 16) fun n a b sc => ⟨.none, none, .func (⟨n, "BytesIO.getbuffer", a, b, sc, 0, [], .none, .none, .none, .none, none, .none, .none, 0⟩), #[]⟩
noncomputable def q191 (P : Params) : Obj := ⟨.type "dict", none, .dict #[de P "__module__" 496 (.str "_io" 501), de P "__qualname__" 498 (.str "BytesIO" 497), de P "__firstlineno__" 500 (.int 39 499), de P "__init__" 510 (.ref 144), de P "_BytesIO__check" 517 (.ref 151), de P "_BytesIO__line" 528 (.ref 158), de P "closed" 536 (.ref 166), de P "close" 543 (.ref 173), de P "__enter__" 550 (.ref 180), de P "__exit__" 558 (.ref 187), de P "readable" 565 (.ref 194), de P "writable" 572 (.ref 201), de P "seekable" 579 (.ref 208), de P "isatty" 586 (.ref 215), de P "flush" 593 (.ref 222), de P "fileno" 600 (.ref 229), de P "detach" 607 (.ref 236), de P "getvalue" 614 (.ref 243), de P "getbuffer" 621 (.ref 250), de P "tell" 628 (.ref 257), de P "seek" 638 (.ref 265), de P "truncate" 646 (.ref 273), de P "read" 658 (.ref 281), de P "read1" 668 (.ref 289), de P "readinto" 678 (.ref 296), de P "readinto1" 686 (.ref 303), de P "readline" 696 (.ref 311), de P "readlines" 704 (.ref 319), de P "__iter__" 711 (.ref 326), de P "__next__" 719 (.ref 333), de P "write" 729 (.ref 340), de P "writelines" 737 (.ref 347), de P "__repr__" 744 (.ref 354), de P "__static_attributes__" 747 (.ref 355)] 34, #[]⟩
noncomputable def q319 (P : Params) : Obj := ⟨.none, none, .fields #[], #[]⟩
noncomputable def q255 (P : Params) : Obj := ⟨.none, none, .fields #[], #[]⟩
noncomputable def q383 (P : Params) : Obj := fnO (nthS (inS (nthS pB 13)) 26) fun n a b sc => ⟨.none, none, .func (⟨n, "BytesIO.__iter__", a, b, sc, 0, [], .none, .none, .none, .none, none, .none, .none, 0⟩), #[]⟩
noncomputable def q223 (P : Params) : Obj := ⟨.type "code", none, .fields #[.str "closed" 529, .str "BytesIO.closed" 530, .str "/claim/cut.py" 531, .int 65 0, .int 1 0, .int 0 0, .int 0 0, .int 3 0, .ref 159, .bool true, .int 318 0, .ref 160, .none, .ref 161, .ref 162, .ref 163, .int 533 0, .int 65 0, .str "/claim/cut.py" 534], #[]⟩
noncomputable def q351 (P : Params) : Obj := ⟨.type "tuple", none, .seq #[.str "self" 672, .str "buffer" 673, .str "start" 674, .str "n" 675] 0, #[]⟩
noncomputable def q287 (P : Params) : Obj := ⟨.type "code", none, .fields #[.str "fileno" 594, .str "BytesIO.fileno" 595, .str "/claim/cut.py" 596, .int 98 0, .int 1 0, .int 0 0, .int 0 0, .int 3 0, .ref 223, .bool true, .int 318 0, .ref 224, .none, .ref 225, .ref 226, .ref 227, .int 598 0, .int 98 0, .str "/claim/cut.py" 599], #[]⟩
noncomputable def q415 (P : Params) : Obj := ⟨.type "dict", none, .dict #[⟨PyData.keyHash P "__module__", .str "__module__" 496, .str "_io" 501⟩, ⟨PyData.keyHash P "__firstlineno__", .str "__firstlineno__" 500, .int 39 499⟩, ⟨PyData.keyHash P "__init__", .str "__init__" 510, .ref 144⟩, ⟨PyData.keyHash P "_BytesIO__check", .str "_BytesIO__check" 517, .ref 151⟩, ⟨PyData.keyHash P "_BytesIO__line", .str "_BytesIO__line" 528, .ref 158⟩, ⟨PyData.keyHash P "closed", .str "closed" 536, .ref 166⟩, ⟨PyData.keyHash P "close", .str "close" 543, .ref 173⟩, ⟨PyData.keyHash P "__enter__", .str "__enter__" 550, .ref 180⟩, ⟨PyData.keyHash P "__exit__", .str "__exit__" 558, .ref 187⟩, ⟨PyData.keyHash P "readable", .str "readable" 565, .ref 194⟩, ⟨PyData.keyHash P "writable", .str "writable" 572, .ref 201⟩, ⟨PyData.keyHash P "seekable", .str "seekable" 579, .ref 208⟩, ⟨PyData.keyHash P "isatty", .str "isatty" 586, .ref 215⟩, ⟨PyData.keyHash P "flush", .str "flush" 593, .ref 222⟩, ⟨PyData.keyHash P "fileno", .str "fileno" 600, .ref 229⟩, ⟨PyData.keyHash P "detach", .str "detach" 607, .ref 236⟩, ⟨PyData.keyHash P "getvalue", .str "getvalue" 614, .ref 243⟩, ⟨PyData.keyHash P "getbuffer", .str "getbuffer" 621, .ref 250⟩, ⟨PyData.keyHash P "tell", .str "tell" 628, .ref 257⟩, ⟨PyData.keyHash P "seek", .str "seek" 638, .ref 265⟩, ⟨PyData.keyHash P "truncate", .str "truncate" 646, .ref 273⟩, ⟨PyData.keyHash P "read", .str "read" 658, .ref 281⟩, ⟨PyData.keyHash P "read1", .str "read1" 668, .ref 289⟩, ⟨PyData.keyHash P "readinto", .str "readinto" 678, .ref 296⟩, ⟨PyData.keyHash P "readinto1", .str "readinto1" 686, .ref 303⟩, ⟨PyData.keyHash P "readline", .str "readline" 696, .ref 311⟩, ⟨PyData.keyHash P "readlines", .str "readlines" 704, .ref 319⟩, ⟨PyData.keyHash P "__iter__", .str "__iter__" 711, .ref 326⟩, ⟨PyData.keyHash P "__next__", .str "__next__" 719, .ref 333⟩, ⟨PyData.keyHash P "write", .str "write" 729, .ref 340⟩, ⟨PyData.keyHash P "writelines", .str "writelines" 737, .ref 347⟩, ⟨PyData.keyHash P "__repr__", .str "__repr__" 744, .ref 354⟩, ⟨PyData.keyHash P "__static_attributes__", .str "__static_attributes__" 747, .ref 355⟩, ⟨PyData.keyHash P "__doc__", .str "__doc__" 748, .none⟩] 2, #[]⟩
noncomputable def q207 (P : Params) : Obj := ⟨.type "tuple", none, .seq #[] 0, #[]⟩
noncomputable def q335 (P : Params) : Obj := ⟨.none, none, .fields #[], #[]⟩
noncomputable def q271 (P : Params) : Obj := ⟨.type "tuple", none, .seq #[] 0, #[]⟩
noncomputable def q399 (P : Params) : Obj := fnO (nthS (inS (nthS pB 13)) 28) fun n a b sc => ⟨.type "function", none, .func (⟨n, "BytesIO.write", a, b, sc, 3, [], .none, .none, .none, .str "io" 381, none, .ref 339, .none, 0⟩), #[]⟩
noncomputable def q239 (P : Params) : Obj := fnO (nthS (inS (nthS pB 13)) 6) fun n a b sc => ⟨.type "function", none, .func (⟨n, "BytesIO.__enter__", a, b, sc, 3, [], .none, .none, .none, .str "io" 381, none, .ref 179, .none, 0⟩), #[]⟩
noncomputable def q367 (P : Params) : Obj := ⟨.type "tuple", none, .seq #[] 0, #[]⟩
noncomputable def q303 (P : Params) : Obj := ⟨.type "tuple", none, .seq #[] 0, #[]⟩
noncomputable def q199 (P : Params) : Obj := ⟨.type "tuple", none, .seq #[.str "self" 506, .str "initial_bytes" 507] 0, #[]⟩
noncomputable def q327 (P : Params) : Obj := ⟨.none, none, .fields #[], #[]⟩
noncomputable def q263 (P : Params) : Obj := ⟨.type "tuple", none, .seq #[.str "self" 576] 0, #[]⟩
noncomputable def q391 (P : Params) : Obj := ⟨.type "code", none, .fields #[.str "__next__" 712, .str "BytesIO.__next__" 713, .str "/claim/cut.py" 714, .int 181 0, .int 1 0, .int 0 0, .int 0 0, .int 3 0, .ref 327, .bool true, .int 318 0, .ref 328, .none, .ref 329, .ref 330, .ref 331, .int 717 0, .int 181 0, .str "/claim/cut.py" 718], #[]⟩
noncomputable def q231 (P : Params) : Obj := ⟨.type "code", none, .fields #[.str "close" 537, .str "BytesIO.close" 538, .str "/claim/cut.py" 539, .int 69 0, .int 1 0, .int 0 0, .int 0 0, .int 3 0, .ref 167, .bool true, .int 318 0, .ref 168, .none, .ref 169, .ref 170, .ref 171, .int 541 0, .int 69 0, .str "/claim/cut.py" 542], #[]⟩
noncomputable def q359 (P : Params) : Obj := ⟨.type "tuple", none, .seq #[] 0, #[]⟩
noncomputable def q295 (P : Params) : Obj := fnO (nthS (inS (nthS pB 13)) 14) fun n a b sc => ⟨.type "function", none, .func (⟨n, "BytesIO.detach", a, b, sc, 3, [], .none, .none, .none, .str "io" 381, none, .ref 235, .none, 0⟩), #[]⟩
noncomputable def q215 (P : Params) : Obj := fnO (nthS (inS (nthS pB 13)) 3) fun n a b sc => ⟨.none, none, .func (⟨n, "BytesIO.__line", a, b, sc, 0, [], .none, .none, .none, .none, none, .none, .none, 0⟩), #[]⟩
noncomputable def q343 (P : Params) : Obj := ⟨.none, none, .fields #[], #[]⟩
noncomputable def q279 (P : Params) : Obj := fnO (nthS (inS (nthS pB 13)) 12) fun n a b sc => ⟨.none, none, .func (⟨n, "BytesIO.flush", a, b, sc, 0, [], .none, .none, .none, .none, none, .none, .none, 0⟩), #[]⟩
noncomputable def q407 (P : Params) : Obj := ⟨.type "tuple", none, .seq #[] 0, #[]⟩
noncomputable def q247 (P : Params) : Obj := ⟨.type "tuple", none, .seq #[] 0, #[]⟩
noncomputable def q375 (P : Params) : Obj := ⟨.type "tuple", none, .seq #[] 0, #[]⟩
noncomputable def q311 (P : Params) : Obj := ⟨.none, none, .fields #[], #[]⟩
noncomputable def q189 (P : Params) : Obj := ⟨.type "tuple", none, .seq #[.ref 115] 0, #[]⟩
noncomputable def q317 (P : Params) : Obj := ⟨.type "tuple", none, .seq #[.int 0 629] 0, #[]⟩
noncomputable def q253 (P : Params) : Obj := fnO (nthS (inS (nthS pB 13)) 8) fun n a b sc => ⟨.type "function", none, .func (⟨n, "BytesIO.readable", a, b, sc, 3, [], .none, .none, .none, .str "io" 381, none, .ref 193, .none, 0⟩), #[]⟩
noncomputable def q381 (P : Params) : Obj := ⟨.type "tuple", none, .seq #[.str "self" 708] 0, #[]⟩
noncomputable def q221 (P : Params) : Obj := ⟨.type "tuple", none, .seq #[] 0, #[]⟩
noncomputable def q349 (P : Params) : Obj := ⟨.type "tuple", none, .seq #[] 0, #[]⟩
noncomputable def q285 (P : Params) : Obj := ⟨.type "tuple", none, .seq #[] 0, #[]⟩
noncomputable def q413 (P : Params) : Obj := fnO (nthS (inS (nthS pB 13)) 30) fun n a b sc => ⟨.type "function", none, .func (⟨n, "BytesIO.__repr__", a, b, sc, 3, [], .none, .none, .none, .str "io" 381, none, .ref 353, .none, 0⟩), #[]⟩
noncomputable def q205 (P : Params) : Obj := ⟨.none, none, .fields #[], #[]⟩
noncomputable def q333 (P : Params) : Obj := ⟨.type "tuple", none, .seq #[.int (-1) 648] 0, #[]⟩
noncomputable def q269 (P : Params) : Obj := ⟨.none, none, .fields #[], #[]⟩
noncomputable def q397 (P : Params) : Obj := fnO (nthS (inS (nthS pB 13)) 28) fun n a b sc => ⟨.none, none, .func (⟨n, "BytesIO.write", a, b, sc, 0, [], .none, .none, .none, .none, none, .none, .none, 0⟩), #[]⟩
noncomputable def q237 (P : Params) : Obj := fnO (nthS (inS (nthS pB 13)) 6) fun n a b sc => ⟨.none, none, .func (⟨n, "BytesIO.__enter__", a, b, sc, 0, [], .none, .none, .none, .none, none, .none, .none, 0⟩), #[]⟩
noncomputable def q365 (P : Params) : Obj := ⟨.none, none, .fields #[], #[]⟩
noncomputable def q301 (P : Params) : Obj := ⟨.type "code", none, .fields #[.str "getvalue" 608, .str "BytesIO.getvalue" 609, .str "/claim/cut.py" 610, .int 104 0, .int 1 0, .int 0 0, .int 0 0, .int 3 0, .ref 237, .bool true, .int 318 0, .ref 238, .none, .ref 239, .ref 240, .ref 241, .int 612 0, .int 104 0, .str "/claim/cut.py" 613], #[]⟩
noncomputable def q197 (P : Params) : Obj := ⟨.type "tuple", none, .seq #[] 0, #[]⟩
noncomputable def q325 (P : Params) : Obj := ⟨.type "tuple", none, .seq #[.none] 0, #[]⟩
noncomputable def q261 (P : Params) : Obj := ⟨.type "tuple", none, .seq #[] 0, #[]⟩
noncomputable def q389 (P : Params) : Obj := ⟨.type "tuple", none, .seq #[] 0, #[]⟩
noncomputable def q229 (P : Params) : Obj := ⟨.type "tuple", none, .seq #[] 0, #[]⟩
noncomputable def q357 (P : Params) : Obj := ⟨.none, none, .fields #[], #[]⟩
noncomputable def q293 (P : Params) : Obj := fnO (nthS (inS (nthS pB 13)) 14) fun n a b sc => ⟨.none, none, .func (⟨n, "BytesIO.detach", a, b, sc, 0, [], .none, .none, .none, .none, none, .none, .none, 0⟩), #[]⟩
noncomputable def q213 (P : Params) : Obj := ⟨.type "tuple", none, .seq #[.str "self" 521, .str "limit" 522, .str "start" 523, .str "stop" 524, .str "i" 525] 0, #[]⟩
noncomputable def q341 (P : Params) : Obj := ⟨.type "tuple", none, .seq #[.int (-1) 660] 0, #[]⟩
noncomputable def q277 (P : Params) : Obj := ⟨.type "tuple", none, .seq #[.str "self" 590] 0, #[]⟩
noncomputable def q405 (P : Params) : Obj := ⟨.type "code", none, .fields #[.str "writelines" 730, .str "BytesIO.writelines" 731, .str "/claim/cut.py" 732, .int 204 0, .int 2 0, .int 2 0, .int 0 0, .int 3 0, .ref 341, .bool true, .int 318 0, .ref 342, .none, .ref 343, .ref 344, .ref 345, .int 735 0, .int 204 0, .str "/claim/cut.py" 736], #[]⟩
noncomputable def q245 (P : Params) : Obj := ⟨.type "code", none, .fields #[.str "__exit__" 551, .str "BytesIO.__exit__" 552, .str "/claim/cut.py" 553, .int 76 0, .int 1 0, .int 0 0, .int 0 0, .int 7 0, .ref 181, .bool true, .int 318 0, .ref 182, .none, .ref 183, .ref 184, .ref 185, .int 556 0, .int 76 0, .str "/claim/cut.py" 557], #[]⟩
noncomputable def q373 (P : Params) : Obj := ⟨.none, none, .fields #[], #[]⟩
noncomputable def q309 (P : Params) : Obj := fnO (nthS (inS (nthS pB 13)) 16) fun n a b sc => ⟨.type "function", none, .func (⟨n, "BytesIO.getbuffer", a, b, sc, 3, [], .none, .none, .none, .str "io" 381, none, .ref 249, .none, 0⟩), #[]⟩
noncomputable def q193 (P : Params) : Obj := ⟨.none, none, .fields #[.int 42 0, .int 4 0, .ref 143, .int 48 0, .int 4 0, .ref 150, .int 52 0, .int 4 0, .ref 157, .int 66 0, .int 4 0, .ref 164, .int 69 0, .int 4 0, .ref 172, .int 72 0, .int 4 0, .ref 179, .int 76 0, .int 4 0, .ref 186, .int 79 0, .int 4 0, .ref 193, .int 83 0, .int 4 0, .ref 200, .int 87 0, .int 4 0, .ref 207, .int 91 0, .int 4 0, .ref 214, .int 95 0, .int 4 0, .ref 221, .int 98 0, .int 4 0, .ref 228, .int 101 0, .int 4 0, .ref 235, .int 104 0, .int 4 0, .ref 242, .int 107 0, .int 4 0, .ref 249, .int 110 0, .int 4 0, .ref 256, .int 114 0, .int 4 0, .ref 264, .int 131 0, .int 4 0, .ref 272, .int 134 0, .int 4 0, .ref 280, .int 148 0, .int 4 0, .ref 288, .int 151 0, .int 4 0, .ref 295, .int 165 0, .int 4 0, .ref 302, .int 168 0, .int 4 0, .ref 310, .int 175 0, .int 4 0, .ref 318, .int 178 0, .int 4 0, .ref 325, .int 181 0, .int 4 0, .ref 332, .int 188 0, .int 4 0, .ref 339, .int 204 0, .int 4 0, .ref 346, .int 207 0, .int 4 0, .ref 353], #[]⟩
noncomputable def q321 (P : Params) : Obj := ⟨.type "tuple", none, .seq #[] 0, #[]⟩
noncomputable def q257 (P : Params) : Obj := ⟨.type "tuple", none, .seq #[] 0, #[]⟩
noncomputable def q385 (P : Params) : Obj := fnO (nthS (inS (nthS pB 13)) 26) fun n a b sc => ⟨.type "function", none, .func (⟨n, "BytesIO.__iter__", a, b, sc, 3, [], .none, .none, .none, .str "io" 381, none, .ref 325, .none, 0⟩), #[]⟩
noncomputable def q225 (P : Params) : Obj := ⟨.type "property", none, .fields #[.ref 165, .none, .none, .none, .str "closed" 536, .bool false], #[]⟩
noncomputable def q353 (P : Params) : Obj := fnO (nthS (inS (nthS pB 13)) 22) fun n a b sc => ⟨.none, none, .func (⟨n, "BytesIO.readinto", a, b, sc, 0, [], .none, .none, .none, .none, none, .none, .none, 0⟩), #[]⟩
noncomputable def q289 (P : Params) : Obj := ⟨.type "tuple", none, .seq #[] 0, #[]⟩
noncomputable def q417 (P : Params) : Obj := ⟨.type "super", none, .fields #[.ref 357, .ref 357, .ref 357], #[]⟩
noncomputable def q209 (P : Params) : Obj := ⟨.type "code", none, .fields #[.str "__check" 511, .str "BytesIO.__check" 512, .str "/claim/cut.py" 513, .int 48 0, .int 1 0, .int 0 0, .int 0 0, .int 3 0, .ref 145, .bool true, .int 318 0, .ref 146, .none, .ref 147, .ref 148, .ref 149, .int 515 0, .int 48 0, .str "/claim/cut.py" 516], #[]⟩
noncomputable def q337 (P : Params) : Obj := ⟨.type "tuple", none, .seq #[] 0, #[]⟩
noncomputable def q273 (P : Params) : Obj := ⟨.type "code", none, .fields #[.str "isatty" 580, .str "BytesIO.isatty" 581, .str "/claim/cut.py" 582, .int 91 0, .int 1 0, .int 0 0, .int 0 0, .int 3 0, .ref 209, .bool true, .int 318 0, .ref 210, .none, .ref 211, .ref 212, .ref 213, .int 584 0, .int 91 0, .str "/claim/cut.py" 585], #[]⟩
noncomputable def q401 (P : Params) : Obj := ⟨.none, none, .fields #[], #[]⟩
noncomputable def q241 (P : Params) : Obj := ⟨.none, none, .fields #[], #[]⟩
noncomputable def q369 (P : Params) : Obj := ⟨.type "code", none, .fields #[.str "readline" 689, .str "BytesIO.readline" 690, .str "/claim/cut.py" 691, .int 168 0, .int 2 0, .int 2 0, .int 0 0, .int 3 0, .ref 305, .bool true, .int 318 0, .ref 306, .none, .ref 307, .ref 308, .ref 309, .int 694 0, .int 168 0, .str "/claim/cut.py" 695], #[]⟩
noncomputable def q305 (P : Params) : Obj := ⟨.type "tuple", none, .seq #[.str "self" 618] 0, #[]⟩
noncomputable def q201 (P : Params) : Obj := fnO (nthS (inS (nthS pB 13)) 1) fun n a b sc => ⟨.none, none, .func (⟨n, "BytesIO.__init__", a, b, sc, 0, [], .none, .none, .none, .none, none, .none, .none, 0⟩), #[]⟩
noncomputable def q329 (P : Params) : Obj := ⟨.type "tuple", none, .seq #[] 0, #[]⟩
noncomputable def q265 (P : Params) : Obj := fnO (nthS (inS (nthS pB 13)) 10) fun n a b sc => ⟨.none, none, .func (⟨n, "BytesIO.seekable", a, b, sc, 0, [], .none, .none, .none, .none, none, .none, .none, 0⟩), #[]⟩
noncomputable def q393 (P : Params) : Obj := ⟨.type "tuple", none, .seq #[] 0, #[]⟩
noncomputable def q233 (P : Params) : Obj := ⟨.type "tuple", none, .seq #[] 0, #[]⟩
noncomputable def q361 (P : Params) : Obj := ⟨.type "code", none, .fields #[.str "readinto1" 679, .str "BytesIO.readinto1" 680, .str "/claim/cut.py" 681, .int 165 0, .int 2 0, .int 2 0, .int 0 0, .int 3 0, .ref 297, .bool true, .int 318 0, .ref 298, .none, .ref 299, .ref 300, .ref 301, .int 684 0, .int 165 0, .str "/claim/cut.py" 685], #[]⟩
noncomputable def q297 (P : Params) : Obj := ⟨.none, none, .fields #[], #[]⟩
noncomputable def q217 (P : Params) : Obj := fnO (nthS (inS (nthS pB 13)) 3) fun n a b sc => ⟨.type "function", none, .func (⟨n, "BytesIO.__line", a, b, sc, 3, [], .none, .none, .none, .str "io" 381, none, .ref 157, .none, 0⟩), #[]⟩
noncomputable def q345 (P : Params) : Obj := ⟨.type "tuple", none, .seq #[] 0, #[]⟩
noncomputable def q281 (P : Params) : Obj := fnO (nthS (inS (nthS pB 13)) 12) fun n a b sc => ⟨.type "function", none, .func (⟨n, "BytesIO.flush", a, b, sc, 3, [], .none, .none, .none, .str "io" 381, none, .ref 221, .none, 0⟩), #[]⟩
noncomputable def q409 (P : Params) : Obj := ⟨.type "tuple", none, .seq #[.str "self" 741] 0, #[]⟩
noncomputable def q249 (P : Params) : Obj := ⟨.type "tuple", none, .seq #[.str "self" 562] 0, #[]⟩
noncomputable def q377 (P : Params) : Obj := ⟨.type "code", none, .fields #[.str "readlines" 697, .str "BytesIO.readlines" 698, .str "/claim/cut.py" 699, .int 175 0, .int 2 0, .int 2 0, .int 0 0, .int 3 0, .ref 313, .bool true, .int 318 0, .ref 314, .none, .ref 315, .ref 316, .ref 317, .int 702 0, .int 175 0, .str "/claim/cut.py" 703], #[]⟩
noncomputable def q313 (P : Params) : Obj := ⟨.type "tuple", none, .seq #[] 0, #[]⟩
noncomputable def q589 (P : Params) : Obj := ⟨.type "dict", none, .dict #[de P "__name__" 165 (.str "io" 381), de P "__doc__" 166 .none, de P "__package__" 167 .none, de P "__loader__" 168 (.builtin "__main__.__loader__#opaque"), de P "__spec__" 169 .none, de P "__annotations__" 170 (.ref 6), de P "__builtins__" 171 (.ref 4), de P "__file__" 173 (.str "/claim/cut.py" 172), de P "__cached__" 174 .none, de P "_sre" 275 (.ref 12), de P "deque" 317 (.type "collections.deque"), de P "_wall" 330 (.ref 44), de P "replace" 340 (.ref 51), de P "_twin_re_1" 380 (.ref 56), de P "_whence" 390 (.ref 63), de P "_index" 398 (.ref 70), de P "UnsupportedOperation" 420 (.ref 80), de P "IOBase" 452 (.ref 100), de P "BufferedIOBase" 470 (.ref 115), de P "TextIOBase" 488 (.ref 127), de P "BytesIO" 750 (.ref 357), de P "StringIO" 1037 (.ref 604)] 22, #[]⟩
noncomputable def q591 (P : Params) : Obj := ⟨.type "type", none, .cls ⟨"TextIOBase", [.ref 100], [.ref 127, .ref 100, .type "object"], 126, "TextIOBase", true, [], [.ref 604], false, none, false⟩, #[some (.ref 118), none, some (.str "TextIOBase" 471), some (.str "TextIOBase" 479), some .none, some (.bool true)]⟩
noncomputable def q743 (P : Params) : Obj := ⟨.type "code", none, .fields #[.str "detach" 918, .str "StringIO.detach" 919, .str "/claim/cut.py" 920, .int 325 0, .int 1 0, .int 0 0, .int 0 0, .int 3 0, .ref 506, .bool true, .int 318 0, .ref 507, .none, .ref 508, .ref 509, .ref 510, .int 922 0, .int 325 0, .str "/claim/cut.py" 923], #[]⟩
noncomputable def q615 (P : Params) : Obj := ⟨.none, none, .fields #[], #[]⟩
noncomputable def q807 (P : Params) : Obj := ⟨.none, none, .fields #[], #[]⟩
noncomputable def q679 (P : Params) : Obj := fnO (nthS (inS (nthS pB 14)) 11) fun n a b sc => ⟨.none, none, .func (⟨n, "StringIO.close", a, b, sc, 0, [], .none, .none, .none, .none, none, .none, .none, 0⟩), #[]⟩
noncomputable def q775 (P : Params) : Obj := ⟨.type "tuple", none, .seq #[.int (-1) 958] 0, #[]⟩
noncomputable def q647 (P : Params) : Obj := fnO (nthS (inS (nthS pB 14)) 7) fun n a b sc => ⟨.none, none, .func (⟨n, "StringIO.line_buffering", a, b, sc, 0, [], .none, .none, .none, .none, none, .none, .none, 0⟩), #[]⟩
noncomputable def q711 (P : Params) : Obj := ⟨.none, none, .fields #[], #[]⟩
noncomputable def q759 (P : Params) : Obj := ⟨.type "tuple", none, .seq #[.int 0 939] 0, #[]⟩
noncomputable def q631 (P : Params) : Obj := ⟨.type "tuple", none, .seq #[] 0, #[]⟩
noncomputable def q823 (P : Params) : Obj := ⟨.type "tuple", none, .seq #[] 0, #[]⟩
noncomputable def q695 (P : Params) : Obj := fnO (nthS (inS (nthS pB 14)) 13) fun n a b sc => ⟨.type "function", none, .func (⟨n, "StringIO.__exit__", a, b, sc, 3, [], .none, .none, .none, .str "io" 381, none, .ref 462, .none, 0⟩), #[]⟩
noncomputable def q791 (P : Params) : Obj := ⟨.type "tuple", none, .seq #[.int (-1) 980] 0, #[]⟩
noncomputable def q663 (P : Params) : Obj := fnO (nthS (inS (nthS pB 14)) 9) fun n a b sc => ⟨.none, none, .func (⟨n, "StringIO.encoding", a, b, sc, 0, [], .none, .none, .none, .none, none, .none, .none, 0⟩), #[]⟩
noncomputable def q599 (P : Params) : Obj := ⟨.type "tuple", none, .seq #[.str "" 765, .str "\n" 766] 0, #[]⟩
noncomputable def q727 (P : Params) : Obj := ⟨.type "tuple", none, .seq #[] 0, #[]⟩
noncomputable def q751 (P : Params) : Obj := fnO (nthS (inS (nthS pB 14)) 21) fun n a b sc => ⟨.type "function", none, .func (⟨n, "StringIO.getvalue", a, b, sc, 3, [], .none, .none, .none, .str "io" 381, none, .ref 518, .none, 0⟩), #[]⟩
noncomputable def q623 (P : Params) : Obj := ⟨.type "tuple", none, .seq #[.str "self" 795] 0, #[]⟩
noncomputable def q815 (P : Params) : Obj := ⟨.type "tuple", none, .seq #[.str "self" 1007, .str "s" 1008, .str "n" 1009, .str "m" 1010, .str "start" 1011, .str "buf" 1012] 0, #[]⟩
noncomputable def q687 (P : Params) : Obj := ⟨.type "code", none, .fields #[.str "__enter__" 861, .str "StringIO.__enter__" 862, .str "/claim/cut.py" 863, .int 296 0, .int 1 0, .int 0 0, .int 0 0, .int 3 0, .ref 450, .bool true, .int 318 0, .ref 451, .none, .ref 452, .ref 453, .ref 454, .int 865 0, .int 296 0, .str "/claim/cut.py" 866], #[]⟩
noncomputable def q783 (P : Params) : Obj := ⟨.type "tuple", none, .seq #[.int (-1) 970] 0, #[]⟩
noncomputable def q655 (P : Params) : Obj := fnO (nthS (inS (nthS pB 14)) 8) fun n a b sc => ⟨.none, none, .func (⟨n, "StringIO.newlines", a, b, sc, 0, [], .none, .none, .none, .none, none, .none, .none, 0⟩), #[]⟩
noncomputable def q719 (P : Params) : Obj := ⟨.type "tuple", none, .seq #[.str "self" 900] 0, #[]⟩
noncomputable def q767 (P : Params) : Obj := ⟨.type "tuple", none, .seq #[.none] 0, #[]⟩
noncomputable def q639 (P : Params) : Obj := fnO (nthS (inS (nthS pB 14)) 6) fun n a b sc => ⟨.none, none, .func (⟨n, "StringIO.closed", a, b, sc, 0, [], .none, .none, .none, .none, none, .none, .none, 0⟩), #[]⟩
noncomputable def q831 (P : Params) : Obj := fnO (nthS (inS (nthS pB 14)) 32) fun n a b sc => ⟨.none, none, .func (⟨n, "StringIO.__repr__", a, b, sc, 0, [], .none, .none, .none, .none, none, .none, .none, 0⟩), #[]⟩
noncomputable def q703 (P : Params) : Obj := ⟨.type "tuple", none, .seq #[] 0, #[]⟩
noncomputable def q799 (P : Params) : Obj := ⟨.type "tuple", none, .seq #[] 0, #[]⟩
noncomputable def q671 (P : Params) : Obj := fnO (nthS (inS (nthS pB 14)) 10) fun n a b sc => ⟨.none, none, .func (⟨n, "StringIO.errors", a, b, sc, 0, [], .none, .none, .none, .none, none, .none, .none, 0⟩), #[]⟩
noncomputable def q607 (P : Params) : Obj := ⟨.type "tuple", none, .seq #[] 0, #[]⟩
noncomputable def q735 (P : Params) : Obj := fnO (nthS (inS (nthS pB 14)) 19) fun n a b sc => ⟨.none, none, .func (⟨n, "StringIO.fileno", a, b, sc, 0, [], .none, .none, .none, .none, none, .none, .none, 0⟩), #[]⟩
noncomputable def q590 (P : Params) : Obj := ⟨.none, none, .fields #[.int 3 0, .int 0 0, .ref 43, .int 7 0, .int 0 0, .ref 50, .int 14 0, .int 0 0, .ref 62, .int 19 0, .int 0 0, .ref 69, .int 26 0, .int 0 0, .ref 76, .int 28 0, .int 0 0, .ref 89, .int 35 0, .int 0 0, .ref 111, .int 37 0, .int 0 0, .ref 123, .int 39 0, .int 0 0, .ref 135, .int 209 0, .int 0 0, .ref 365], #[]⟩
noncomputable def q747 (P : Params) : Obj := ⟨.type "tuple", none, .seq #[.str "self" 928] 0, #[]⟩
noncomputable def q619 (P : Params) : Obj := ⟨.type "code", none, .fields #[.str "__check" 785, .str "StringIO.__check" 786, .str "/claim/cut.py" 787, .int 233 0, .int 1 0, .int 0 0, .int 0 0, .int 3 0, .ref 382, .bool true, .int 318 0, .ref 383, .none, .ref 384, .ref 385, .ref 386, .int 789 0, .int 233 0, .str "/claim/cut.py" 790], #[]⟩
noncomputable def q811 (P : Params) : Obj := ⟨.type "code", none, .fields #[.str "__next__" 996, .str "StringIO.__next__" 997, .str "/claim/cut.py" 998, .int 383 0, .int 1 0, .int 0 0, .int 0 0, .int 3 0, .ref 574, .bool true, .int 318 0, .ref 575, .none, .ref 576, .ref 577, .ref 578, .int 1001 0, .int 383 0, .str "/claim/cut.py" 1002], #[]⟩
noncomputable def q683 (P : Params) : Obj := ⟨.none, none, .fields #[], #[]⟩
noncomputable def q779 (P : Params) : Obj := ⟨.type "tuple", none, .seq #[] 0, #[]⟩
noncomputable def q651 (P : Params) : Obj := ⟨.type "tuple", none, .seq #[] 0, #[]⟩
noncomputable def q715 (P : Params) : Obj := ⟨.type "code", none, .fields #[.str "seekable" 890, .str "StringIO.seekable" 891, .str "/claim/cut.py" 892, .int 311 0, .int 1 0, .int 0 0, .int 0 0, .int 3 0, .ref 478, .bool true, .int 318 0, .ref 479, .none, .ref 480, .ref 481, .ref 482, .int 894 0, .int 311 0, .str "/claim/cut.py" 895], #[]⟩
noncomputable def q763 (P : Params) : Obj := ⟨.type "tuple", none, .seq #[] 0, #[]⟩
noncomputable def q635 (P : Params) : Obj := ⟨.type "tuple", none, .seq #[] 0, #[]⟩
noncomputable def q827 (P : Params) : Obj := ⟨.type "tuple", none, .seq #[] 0, #[]⟩
noncomputable def q699 (P : Params) : Obj := ⟨.type "tuple", none, .seq #[] 0, #[]⟩
noncomputable def q795 (P : Params) : Obj := ⟨.type "tuple", none, .seq #[] 0, #[]⟩
noncomputable def q667 (P : Params) : Obj := ⟨.type "tuple", none, .seq #[] 0, #[]⟩
noncomputable def q603 (P : Params) : Obj := ⟨.type "tuple", none, .seq #[] 0, #[]⟩
noncomputable def q731 (P : Params) : Obj := ⟨.type "tuple", none, .seq #[] 0, #[]⟩
noncomputable def q755 (P : Params) : Obj := ⟨.type "tuple", none, .seq #[] 0, #[]⟩
noncomputable def q627 (P : Params) : Obj := fnO (nthS (inS (nthS pB 14)) 4) fun n a b sc => ⟨.type "function", none, .func (⟨n, "StringIO.__check_dot", a, b, sc, 3, [], .none, .none, .none, .str "io" 381, none, .ref 394, .none, 0⟩), #[]⟩
noncomputable def q819 (P : Params) : Obj := fnO (nthS (inS (nthS pB 14)) 30) fun n a b sc => ⟨.type "function", none, .func (⟨n, "StringIO.write", a, b, sc, 3, [], .none, .none, .none, .str "io" 381, none, .ref 586, .none, 0⟩), #[]⟩
noncomputable def q691 (P : Params) : Obj := ⟨.type "tuple", none, .seq #[.str "self" 871, .str "args" 872] 0, #[]⟩
noncomputable def q787 (P : Params) : Obj := ⟨.type "tuple", none, .seq #[] 0, #[]⟩
noncomputable def q659 (P : Params) : Obj := ⟨.type "tuple", none, .seq #[] 0, #[]⟩
noncomputable def q595 (P : Params) : Obj := ⟨.type "tuple", none, .seq #[] 0, #[]⟩
noncomputable def q723 (P : Params) : Obj := fnO (nthS (inS (nthS pB 14)) 17) fun n a b sc => ⟨.type "function", none, .func (⟨n, "StringIO.isatty", a, b, sc, 3, [], .none, .none, .none, .str "io" 381, none, .ref 490, .none, 0⟩), #[]⟩
noncomputable def q771 (P : Params) : Obj := ⟨.type "tuple", none, .seq #[] 0, #[]⟩
noncomputable def q643 (P : Params) : Obj := ⟨.type "tuple", none, .seq #[] 0, #[]⟩
noncomputable def q835 (P : Params) : Obj := ⟨.type "dict", none, .dict #[⟨PyData.keyHash P "__module__", .str "__module__" 758, .str "_io" 763⟩, ⟨PyData.keyHash P "__firstlineno__", .str "__firstlineno__" 762, .int 209 761⟩, ⟨PyData.keyHash P "__init__", .str "__init__" 775, .ref 374⟩, ⟨PyData.keyHash P "_StringIO__translated", .str "_StringIO__translated" 784, .ref 381⟩, ⟨PyData.keyHash P "_StringIO__check", .str "_StringIO__check" 791, .ref 388⟩, ⟨PyData.keyHash P "_StringIO__check_dot", .str "_StringIO__check_dot" 798, .ref 395⟩, ⟨PyData.keyHash P "_StringIO__line", .str "_StringIO__line" 813, .ref 402⟩, ⟨PyData.keyHash P "closed", .str "closed" 821, .ref 410⟩, ⟨PyData.keyHash P "line_buffering", .str "line_buffering" 829, .ref 418⟩, ⟨PyData.keyHash P "newlines", .str "newlines" 837, .ref 426⟩, ⟨PyData.keyHash P "encoding", .str "encoding" 845, .ref 434⟩, ⟨PyData.keyHash P "errors", .str "errors" 853, .ref 442⟩, ⟨PyData.keyHash P "close", .str "close" 860, .ref 449⟩, ⟨PyData.keyHash P "__enter__", .str "__enter__" 867, .ref 456⟩, ⟨PyData.keyHash P "__exit__", .str "__exit__" 875, .ref 463⟩, ⟨PyData.keyHash P "readable", .str "readable" 882, .ref 470⟩, ⟨PyData.keyHash P "writable", .str "writable" 889, .ref 477⟩, ⟨PyData.keyHash P "seekable", .str "seekable" 896, .ref 484⟩, ⟨PyData.keyHash P "isatty", .str "isatty" 903, .ref 491⟩, ⟨PyData.keyHash P "flush", .str "flush" 910, .ref 498⟩, ⟨PyData.keyHash P "fileno", .str "fileno" 917, .ref 505⟩, ⟨PyData.keyHash P "detach", .str "detach" 924, .ref 512⟩, ⟨PyData.keyHash P "getvalue", .str "getvalue" 931, .ref 519⟩, ⟨PyData.keyHash P "tell", .str "tell" 938, .ref 526⟩, ⟨PyData.keyHash P "seek", .str "seek" 948, .ref 534⟩, ⟨PyData.keyHash P "truncate", .str "truncate" 956, .ref 542⟩, ⟨PyData.keyHash P "read", .str "read" 968, .ref 550⟩, ⟨PyData.keyHash P "readline", .str "readline" 978, .ref 558⟩, ⟨PyData.keyHash P "readlines", .str "readlines" 988, .ref 566⟩, ⟨PyData.keyHash P "__iter__", .str "__iter__" 995, .ref 573⟩, ⟨PyData.keyHash P "__next__", .str "__next__" 1003, .ref 580⟩, ⟨PyData.keyHash P "write", .str "write" 1015, .ref 587⟩, ⟨PyData.keyHash P "writelines", .str "writelines" 1023, .ref 594⟩, ⟨PyData.keyHash P "__repr__", .str "__repr__" 1030, .ref 601⟩, ⟨PyData.keyHash P "__static_attributes__", .str "__static_attributes__" 1034, .ref 602⟩, ⟨PyData.keyHash P "__doc__", .str "__doc__" 1035, .none⟩] 2, #[]⟩
noncomputable def q707 (P : Params) : Obj := fnO (nthS (inS (nthS pB 14)) 15) fun n a b sc => ⟨.none, none, .func (⟨n, "StringIO.writable", a, b, sc, 0, [], .none, .none, .none, .none, none, .none, .none, 0⟩), #[]⟩
noncomputable def q803 (P : Params) : Obj := fnO (nthS (inS (nthS pB 14)) 28) fun n a b sc => ⟨.none, none, .func (⟨n, "StringIO.__iter__", a, b, sc, 0, [], .none, .none, .none, .none, none, .none, .none, 0⟩), #[]⟩
noncomputable def q675 (P : Params) : Obj := ⟨.type "tuple", none, .seq #[] 0, #[]⟩
noncomputable def q611 (P : Params) : Obj := fnO (nthS (inS (nthS pB 14)) 2) fun n a b sc => ⟨.none, none, .func (⟨n, "StringIO.__translated", a, b, sc, 0, [], .none, .none, .none, .none, none, .none, .none, 0⟩), #[]⟩
noncomputable def q739 (P : Params) : Obj := ⟨.none, none, .fields #[], #[]⟩
noncomputable def q745 (P : Params) : Obj := ⟨.type "tuple", none, .seq #[] 0, #[]⟩
noncomputable def q617 (P : Params) : Obj := ⟨.type "tuple", none, .seq #[] 0, #[]⟩
noncomputable def q809 (P : Params) : Obj := ⟨.type "tuple", none, .seq #[] 0, #[]⟩
noncomputable def q681 (P : Params) : Obj := fnO (nthS (inS (nthS pB 14)) 11) fun n a b sc => ⟨.type "function", none, .func (⟨n, "StringIO.close", a, b, sc, 3, [], .none, .none, .none, .str "io" 381, none, .ref 448, .none, 0⟩), #[]⟩
noncomputable def q777 (P : Params) : Obj := ⟨.none, none, .fields #[], #[]⟩
noncomputable def q649 (P : Params) : Obj := fnO (nthS (inS (nthS pB 14)) 7) fun n a b sc => ⟨.type "function", none, .func (⟨n, "StringIO.line_buffering", a, b, sc, 3, [], .none, .none, .none, .str "io" 381, none, .ref 416, .none, 0⟩), #[]⟩
noncomputable def q713 (P : Params) : Obj := ⟨.type "tuple", none, .seq #[] 0, #[]⟩
noncomputable def q761 (P : Params) : Obj := ⟨.none, none, .fields #[], #[]⟩
noncomputable def q633 (P : Params) : Obj := ⟨.type "code", none, .fields #[.str "__line" 799, .str "StringIO.__line" 800, .str "/claim/cut.py" 801, .int 241 0, .int 2 0, .int 0 0, .int 0 0, .int 3 0, .ref 396, .bool true, .int 318 0, .ref 397, .none, .ref 398, .ref 399, .ref 400, .int 811 0, .int 241 0, .str "/claim/cut.py" 812], #[]⟩
noncomputable def q825 (P : Params) : Obj := ⟨.type "code", none, .fields #[.str "writelines" 1016, .str "StringIO.writelines" 1017, .str "/claim/cut.py" 1018, .int 409 0, .int 2 0, .int 2 0, .int 0 0, .int 3 0, .ref 588, .bool true, .int 318 0, .ref 589, .none, .ref 590, .ref 591, .ref 592, .int 1021 0, .int 409 0, .str "/claim/cut.py" 1022], #[]⟩
noncomputable def q697 (P : Params) : Obj := ⟨.none, none, .fields #[], #[]⟩
noncomputable def q793 (P : Params) : Obj := ⟨.none, none, .fields #[], #[]⟩
noncomputable def q665 (P : Params) : Obj := fnO (nthS (inS (nthS pB 14)) 9) fun n a b sc => ⟨.type "function", none, .func (⟨n, "StringIO.encoding", a, b, sc, 3, [], .none, .none, .none, .str "io" 381, none, .ref 432, .none, 0⟩), #[]⟩
noncomputable def q601 (P : Params) : Obj := ⟨.none, none, .fields #[], #[]⟩
noncomputable def q729 (P : Params) : Obj := ⟨.type "code", none, .fields #[.str "flush" 904, .str "StringIO.flush" 905, .str "/claim/cut.py" 906, .int 319 0, .int 1 0, .int 0 0, .int 0 0, .int 3 0, .ref 492, .bool true, .int 318 0, .ref 493, .none, .ref 494, .ref 495, .ref 496, .int 908 0, .int 319 0, .str "/claim/cut.py" 909], #[]⟩
noncomputable def q753 (P : Params) : Obj := ⟨.none, none, .fields #[], #[]⟩
noncomputable def q625 (P : Params) : Obj := fnO (nthS (inS (nthS pB 14)) 4) fun n a b sc => ⟨.none, none, .func (⟨n, "StringIO.__check_dot", a, b, sc, 0, [], .none, .none, .none, .none, none, .none, .none, 0⟩), #[]⟩
noncomputable def q817 (P : Params) : Obj := fnO (nthS (inS (nthS pB 14)) 30) fun n a b sc => ⟨.none, none, .func (⟨n, "StringIO.write", a, b, sc, 0, [], .none, .none, .none, .none, none, .none, .none, 0⟩), #[]⟩
noncomputable def q689 (P : Params) : Obj := ⟨.type "tuple", none, .seq #[] 0, #[]⟩
noncomputable def q785 (P : Params) : Obj := ⟨.none, none, .fields #[], #[]⟩
noncomputable def q657 (P : Params) : Obj := fnO (nthS (inS (nthS pB 14)) 8) fun n a b sc => ⟨.type "function", none, .func (⟨n, "StringIO.newlines", a, b, sc, 3, [], .none, .none, .none, .str "io" 381, none, .ref 424, .none, 0⟩), #[]⟩
noncomputable def q593 (P : Params) : Obj := ⟨.type "builtin_function_or_method", none, .fields #[.builtin "type.__prepare__", .type "type"], #[]⟩
noncomputable def q721 (P : Params) : Obj := fnO (nthS (inS (nthS pB 14)) 17) fun n a b sc => ⟨.none, none, .func (⟨n, "StringIO.isatty", a, b, sc, 0, [], .none, .none, .none, .none, none, .none, .none, 0⟩), #[]⟩
noncomputable def q769 (P : Params) : Obj := ⟨.none, none, .fields #[], #[]⟩
noncomputable def q641 (P : Params) : Obj := fnO (nthS (inS (nthS pB 14)) 6) fun n a b sc => ⟨.type "function", none, .func (⟨n, "StringIO.closed", a, b, sc, 3, [], .none, .none, .none, .str "io" 381, none, .ref 408, .none, 0⟩), #[]⟩
noncomputable def q833 (P : Params) : Obj := fnO (nthS (inS (nthS pB 14)) 32) fun n a b sc => ⟨.type "function", none, .func (⟨n, "StringIO.__repr__", a, b, sc, 3, [], .none, .none, .none, .str "io" 381, none, .ref 600, .none, 0⟩), #[]⟩
noncomputable def q705 (P : Params) : Obj := ⟨.type "tuple", none, .seq #[.str "self" 886] 0, #[]⟩
noncomputable def q801 (P : Params) : Obj := ⟨.type "tuple", none, .seq #[.str "self" 992] 0, #[]⟩
noncomputable def q673 (P : Params) : Obj := fnO (nthS (inS (nthS pB 14)) 10) fun n a b sc => ⟨.type "function", none, .func (⟨n, "StringIO.errors", a, b, sc, 3, [], .none, .none, .none, .str "io" 381, none, .ref 440, .none, 0⟩), #[]⟩
noncomputable def q609 (P : Params) : Obj := ⟨.type "tuple", none, .seq #[.str "self" 779, .str "s" 780, .str "newline" 781] 0, #[]⟩
noncomputable def q737 (P : Params) : Obj := fnO (nthS (inS (nthS pB 14)) 19) fun n a b sc => ⟨.type "function", none, .func (⟨n, "StringIO.fileno", a, b, sc, 3, [], .none, .none, .none, .str "io" 381, none, .ref 504, .none, 0⟩), #[]⟩
noncomputable def q749 (P : Params) : Obj := fnO (nthS (inS (nthS pB 14)) 21) fun n a b sc => ⟨.none, none, .func (⟨n, "StringIO.getvalue", a, b, sc, 0, [], .none, .none, .none, .none, none, .none, .none, 0⟩), #[]⟩
noncomputable def q621 (P : Params) : Obj := ⟨.type "tuple", none, .seq #[] 0, #[]⟩
noncomputable def q813 (P : Params) : Obj := ⟨.type "tuple", none, .seq #[] 0, #[]⟩
noncomputable def q685 (P : Params) : Obj := ⟨.type "tuple", none, .seq #[] 0, #[]⟩
noncomputable def q781 (P : Params) : Obj := ⟨.type "code", none, .fields #[.str "read" 959, .str "StringIO.read" 960, .str "/claim/cut.py" 961, .int 355 0, .int 2 0, .int 2 0, .int 0 0, .int 3 0, .ref 544, .bool true, .int 318 0, .ref 545, .none, .ref 546, .ref 547, .ref 548, .int 966 0, .int 355 0, .str "/claim/cut.py" 967], #[]⟩
noncomputable def q653 (P : Params) : Obj := ⟨.type "tuple", none, .seq #[.str "self" 833] 0, #[]⟩
noncomputable def q717 (P : Params) : Obj := ⟨.type "tuple", none, .seq #[] 0, #[]⟩
noncomputable def q765 (P : Params) : Obj := ⟨.type "code", none, .fields #[.str "seek" 940, .str "StringIO.seek" 941, .str "/claim/cut.py" 942, .int 335 0, .int 3 0, .int 3 0, .int 0 0, .int 3 0, .ref 528, .bool true, .int 318 0, .ref 529, .none, .ref 530, .ref 531, .ref 532, .int 946 0, .int 335 0, .str "/claim/cut.py" 947], #[]⟩
noncomputable def q637 (P : Params) : Obj := ⟨.type "tuple", none, .seq #[.str "self" 817] 0, #[]⟩
noncomputable def q829 (P : Params) : Obj := ⟨.type "tuple", none, .seq #[.str "self" 1027] 0, #[]⟩
noncomputable def q701 (P : Params) : Obj := ⟨.type "code", none, .fields #[.str "readable" 876, .str "StringIO.readable" 877, .str "/claim/cut.py" 878, .int 303 0, .int 1 0, .int 0 0, .int 0 0, .int 3 0, .ref 464, .bool true, .int 318 0, .ref 465, .none, .ref 466, .ref 467, .ref 468, .int 880 0, .int 303 0, .str "/claim/cut.py" 881], #[]⟩
noncomputable def q797 (P : Params) : Obj := ⟨.type "code", none, .fields #[.str "readlines" 981, .str "StringIO.readlines" 982, .str "/claim/cut.py" 983, .int 376 0, .int 2 0, .int 2 0, .int 0 0, .int 3 0, .ref 560, .bool true, .int 318 0, .ref 561, .none, .ref 562, .ref 563, .ref 564, .int 986 0, .int 376 0, .str "/claim/cut.py" 987], #[]⟩
noncomputable def q669 (P : Params) : Obj := ⟨.type "tuple", none, .seq #[.str "self" 849] 0, #[]⟩
noncomputable def q605 (P : Params) : Obj := ⟨.type "code", none, .fields #[.str "__init__" 767, .str "StringIO.__init__" 768, .str "/claim/cut.py" 769, .int 212 0, .int 3 0, .int 0 0, .int 0 0, .int 3 0, .ref 368, .bool true, .int 318 0, .ref 369, .none, .ref 370, .ref 371, .ref 372, .int 773 0, .int 212 0, .str "/claim/cut.py" 774], #[]⟩
noncomputable def q733 (P : Params) : Obj := ⟨.type "tuple", none, .seq #[.str "self" 914] 0, #[]⟩
noncomputable def q757 (P : Params) : Obj := ⟨.type "code", none, .fields #[.str "tell" 932, .str "StringIO.tell" 933, .str "/claim/cut.py" 934, .int 331 0, .int 1 0, .int 0 0, .int 0 0, .int 3 0, .ref 520, .bool true, .int 318 0, .ref 521, .none, .ref 522, .ref 523, .ref 524, .int 936 0, .int 331 0, .str "/claim/cut.py" 937], #[]⟩
noncomputable def q629 (P : Params) : Obj := ⟨.none, none, .fields #[], #[]⟩
noncomputable def q821 (P : Params) : Obj := ⟨.none, none, .fields #[], #[]⟩
noncomputable def q693 (P : Params) : Obj := fnO (nthS (inS (nthS pB 14)) 13) fun n a b sc => ⟨.none, none, .func (⟨n, "StringIO.__exit__", a, b, sc, 0, [], .none, .none, .none, .none, none, .none, .none, 0⟩), #[]⟩
noncomputable def q789 (P : Params) : Obj := ⟨.type "code", none, .fields #[.str "readline" 971, .str "StringIO.readline" 972, .str "/claim/cut.py" 973, .int 369 0, .int 2 0, .int 2 0, .int 0 0, .int 3 0, .ref 552, .bool true, .int 318 0, .ref 553, .none, .ref 554, .ref 555, .ref 556, .int 976 0, .int 369 0, .str "/claim/cut.py" 977], #[]⟩
noncomputable def q661 (P : Params) : Obj := ⟨.type "tuple", none, .seq #[.str "self" 841] 0, #[]⟩
noncomputable def q597 (P : Params) : Obj := ⟨.type "code", none, .fields #[.str "StringIO" 753, .str "StringIO" 754, .str "/claim/cut.py" 755, .int 209 0, .int 0 0, .int 0 0, .int 0 0, .int 0 0, .ref 363, .bool false, .int 318 0, .ref 364, .none, .none, .none, .none, .int 756 0, .int 209 0, .str "/claim/cut.py" 757], #[]⟩
noncomputable def q725 (P : Params) : Obj := ⟨.none, none, .fields #[], #[]⟩
noncomputable def q773 (P : Params) : Obj := ⟨.type "code", none, .fields #[.str "truncate" 949, .str "StringIO.truncate" 950, .str "/claim/cut.py" 951, .int 352 0, .int 2 0, .int 2 0, .int 0 0, .int 3 0, .ref 536, .bool true, .int 318 0, .ref 537, .none, .ref 538, .ref 539, .ref 540, .int 954 0, .int 352 0, .str "/claim/cut.py" 955], #[]⟩
noncomputable def q645 (P : Params) : Obj := ⟨.type "tuple", none, .seq #[.str "self" 825] 0, #[]⟩
noncomputable def q837 (P : Params) : Obj := ⟨.type "super", none, .fields #[.ref 604, .ref 604, .ref 604], #[]⟩
noncomputable def q709 (P : Params) : Obj := fnO (nthS (inS (nthS pB 14)) 15) fun n a b sc => ⟨.type "function", none, .func (⟨n, "StringIO.writable", a, b, sc, 3, [], .none, .none, .none, .str "io" 381, none, .ref 476, .none, 0⟩), #[]⟩
noncomputable def q805 (P : Params) : Obj := fnO (nthS (inS (nthS pB 14)) 28) fun n a b sc => ⟨.type "function", none, .func (⟨n, "StringIO.__iter__", a, b, sc, 3, [], .none, .none, .none, .str "io" 381, none, .ref 572, .none, 0⟩), #[]⟩
noncomputable def q677 (P : Params) : Obj := ⟨.type "tuple", none, .seq #[.str "self" 857] 0, #[]⟩
noncomputable def q613 (P : Params) : Obj := fnO (nthS (inS (nthS pB 14)) 2) fun n a b sc => ⟨.type "function", none, .func (⟨n, "StringIO.__translated", a, b, sc, 3, [], .none, .none, .none, .str "io" 381, none, .ref 380, .none, 0⟩), #[]⟩
noncomputable def q741 (P : Params) : Obj := ⟨.type "tuple", none, .seq #[] 0, #[]⟩
noncomputable def q744 (P : Params) : Obj := fnO (nthS (inS (nthS pB 14)) 20) fun n a b sc => ⟨.type "function", none, .func (⟨n, "StringIO.detach", a, b, sc, 3, [], .none, .none, .none, .str "io" 381, none, .ref 511, .none, 0⟩), #[]⟩
noncomputable def q616 (P : Params) : Obj := ⟨.type "tuple", none, .seq #[.str "self" 788] 0, #[]⟩
noncomputable def q808 (P : Params) : Obj := ⟨.type "tuple", none, .seq #[.str "self" 999, .str "line" 1000] 0, #[]⟩
noncomputable def q680 (P : Params) : Obj := ⟨.type "code", none, .fields #[.str "close" 854, .str "StringIO.close" 855, .str "/claim/cut.py" 856, .int 293 0, .int 1 0, .int 0 0, .int 0 0, .int 3 0, .ref 443, .bool true, .int 318 0, .ref 444, .none, .ref 445, .ref 446, .ref 447, .int 858 0, .int 293 0, .str "/claim/cut.py" 859], #[]⟩
noncomputable def q776 (P : Params) : Obj := ⟨.type "tuple", none, .seq #[] 0, #[]⟩
noncomputable def q648 (P : Params) : Obj := ⟨.type "code", none, .fields #[.str "line_buffering" 822, .str "StringIO.line_buffering" 823, .str "/claim/cut.py" 824, .int 277 0, .int 1 0, .int 0 0, .int 0 0, .int 3 0, .ref 411, .bool true, .int 318 0, .ref 412, .none, .ref 413, .ref 414, .ref 415, .int 826 0, .int 277 0, .str "/claim/cut.py" 827], #[]⟩
noncomputable def q712 (P : Params) : Obj := ⟨.type "tuple", none, .seq #[.str "self" 893] 0, #[]⟩
noncomputable def q760 (P : Params) : Obj := ⟨.type "tuple", none, .seq #[] 0, #[]⟩
noncomputable def q632 (P : Params) : Obj := fnO (nthS (inS (nthS pB 14)) 5) fun n a b sc => ⟨.none, none, .func (⟨n, "StringIO.__line", a, b, sc, 0, [], .none, .none, .none, .none, none, .none, .none, 0⟩), #[]⟩
noncomputable def q824 (P : Params) : Obj := fnO (nthS (inS (nthS pB 14)) 31) fun n a b sc => ⟨.none, none, .func (⟨n, "StringIO.writelines", a, b, sc, 0, [], .none, .none, .none, .none, none, .none, .none, 0⟩), #[]⟩
noncomputable def q696 (P : Params) : Obj := ⟨.type "tuple", none, .seq #[] 0, #[]⟩
noncomputable def q792 (P : Params) : Obj := ⟨.type "tuple", none, .seq #[] 0, #[]⟩
noncomputable def q664 (P : Params) : Obj := ⟨.type "code", none, .fields #[.str "encoding" 838, .str "StringIO.encoding" 839, .str "/claim/cut.py" 840, .int 285 0, .int 1 0, .int 0 0, .int 0 0, .int 3 0, .ref 427, .bool true, .int 318 0, .ref 428, .none, .ref 429, .ref 430, .ref 431, .int 842 0, .int 285 0, .str "/claim/cut.py" 843], #[]⟩
noncomputable def q600 (P : Params) : Obj := ⟨.type "tuple", none, .seq #[] 0, #[]⟩
noncomputable def q728 (P : Params) : Obj := fnO (nthS (inS (nthS pB 14)) 18) fun n a b sc => ⟨.none, none, .func (⟨n, "StringIO.flush", a, b, sc, 0, [], .none, .none, .none, .none, none, .none, .none, 0⟩), #[]⟩
noncomputable def q752 (P : Params) : Obj := ⟨.type "tuple", none, .seq #[] 0, #[]⟩
noncomputable def q624 (P : Params) : Obj := ⟨.type "tuple", none, .seq #[] 0, #[]⟩
noncomputable def q816 (P : Params) : Obj := ⟨.type "tuple", none, .seq #[] 0, #[]⟩
noncomputable def q688 (P : Params) : Obj := fnO (nthS (inS (nthS pB 14)) 12) fun n a b sc => ⟨.type "function", none, .func (⟨n, "StringIO.__enter__", a, b, sc, 3, [], .none, .none, .none, .str "io" 381, none, .ref 455, .none, 0⟩), #[]⟩
noncomputable def q784 (P : Params) : Obj := ⟨.type "tuple", none, .seq #[] 0, #[]⟩
noncomputable def q656 (P : Params) : Obj := ⟨.type "code", none, .fields #[.str "newlines" 830, .str "StringIO.newlines" 831, .str "/claim/cut.py" 832, .int 281 0, .int 1 0, .int 0 0, .int 0 0, .int 3 0, .ref 419, .bool true, .int 318 0, .ref 420, .none, .ref 421, .ref 422, .ref 423, .int 834 0, .int 281 0, .str "/claim/cut.py" 835], #[]⟩
noncomputable def q592 (P : Params) : Obj := ⟨.type "tuple", none, .seq #[.ref 127] 0, #[]⟩
noncomputable def q720 (P : Params) : Obj := ⟨.type "tuple", none, .seq #[] 0, #[]⟩
noncomputable def q768 (P : Params) : Obj := ⟨.type "tuple", none, .seq #[] 0, #[]⟩
noncomputable def q640 (P : Params) : Obj := ⟨.type "code", none, .fields #[.str "closed" 814, .str "StringIO.closed" 815, .str "/claim/cut.py" 816, .int 273 0, .int 1 0, .int 0 0, .int 0 0, .int 3 0, .ref 403, .bool true, .int 318 0, .ref 404, .none, .ref 405, .ref 406, .ref 407, .int 818 0, .int 273 0, .str "/claim/cut.py" 819], #[]⟩
noncomputable def q832 (P : Params) : Obj := ⟨.type "code", none, .fields #[.str "__repr__" 1024, .str "StringIO.__repr__" 1025, .str "/claim/cut.py" 1026, .int 412 0, .int 1 0, .int 0 0, .int 0 0, .int 3 0, .ref 595, .bool true, .int 318 0, .ref 596, .none, .ref 597, .ref 598, .ref 599, .int 1028 0, .int 412 0, .str "/claim/cut.py" 1029], #[]⟩
noncomputable def q704 (P : Params) : Obj := ⟨.none, none, .fields #[], #[]⟩
noncomputable def q800 (P : Params) : Obj := ⟨.none, none, .fields #[], #[]⟩
noncomputable def q672 (P : Params) : Obj := ⟨.type "code", none, .fields #[.str "errors" 846, .str "StringIO.errors" 847, .str "/claim/cut.py" 848, .int 289 0, .int 1 0, .int 0 0, .int 0 0, .int 3 0, .ref 435, .bool true, .int 318 0, .ref 436, .none, .ref 437, .ref 438, .ref 439, .int 850 0, .int 289 0, .str "/claim/cut.py" 851], #[]⟩
noncomputable def q608 (P : Params) : Obj := ⟨.none, none, .fields #[], #[]⟩
noncomputable def q736 (P : Params) : Obj := ⟨.type "code", none, .fields #[.str "fileno" 911, .str "StringIO.fileno" 912, .str "/claim/cut.py" 913, .int 322 0, .int 1 0, .int 0 0, .int 0 0, .int 3 0, .ref 499, .bool true, .int 318 0, .ref 500, .none, .ref 501, .ref 502, .ref 503, .int 915 0, .int 322 0, .str "/claim/cut.py" 916], #[]⟩
noncomputable def q748 (P : Params) : Obj := ⟨.type "tuple", none, .seq #[] 0, #[]⟩
noncomputable def q620 (P : Params) : Obj := fnO (nthS (inS (nthS pB 14)) 3) fun n a b sc => ⟨.type "function", none, .func (⟨n, "StringIO.__check", a, b, sc, 3, [], .none, .none, .none, .str "io" 381, none, .ref 387, .none, 0⟩), #[]⟩
noncomputable def q812 (P : Params) : Obj := fnO (nthS (inS (nthS pB 14)) 29) fun n a b sc => ⟨.type "function", none, .func (⟨n, "StringIO.__next__", a, b, sc, 3, [], .none, .none, .none, .str "io" 381, none, .ref 579, .none, 0⟩), #[]⟩
noncomputable def q684 (P : Params) : Obj := ⟨.type "tuple", none, .seq #[.str "self" 864] 0, #[]⟩
noncomputable def q780 (P : Params) : Obj := fnO (nthS (inS (nthS pB 14)) 25) fun n a b sc => ⟨.none, none, .func (⟨n, "StringIO.read", a, b, sc, 0, [], .none, .none, .none, .none, none, .none, .none, 0⟩), #[]⟩
noncomputable def q652 (P : Params) : Obj := ⟨.none, none, .fields #[], #[]⟩
noncomputable def q716 (P : Params) : Obj := fnO (nthS (inS (nthS pB 14)) 16) fun n a b sc => ⟨.type "function", none, .func (⟨n, "StringIO.seekable", a, b, sc, 3, [], .none, .none, .none, .str "io" 381, none, .ref 483, .none, 0⟩), #[]⟩
noncomputable def q764 (P : Params) : Obj := fnO (nthS (inS (nthS pB 14)) 23) fun n a b sc => ⟨.none, none, .func (⟨n, "StringIO.seek", a, b, sc, 0, [], .none, .none, .none, .none, none, .none, .none, 0⟩), #[]⟩
noncomputable def q636 (P : Params) : Obj := ⟨.none, none, .fields #[], #[]⟩
noncomputable def q828 (P : Params) : Obj := ⟨.none, none, .fields #[], #[]⟩
noncomputable def q700 (P : Params) : Obj := fnO (nthS (inS (nthS pB 14)) 14) fun n a b sc => ⟨.none, none, .func (⟨n, "StringIO.readable", a, b, sc, 0, [], .none, .none, .none, .none, none, .none, .none, 0⟩), #[]⟩
noncomputable def q796 (P : Params) : Obj := fnO (nthS (inS (nthS pB 14)) 27) fun n a b sc => ⟨.none, none, .func (⟨n, "StringIO.readlines", a, b, sc, 0, [], .none, .none, .none, .none, none, .none, .none, 0⟩), #[]⟩
noncomputable def q668 (P : Params) : Obj := ⟨.none, none, .fields #[], #[]⟩
noncomputable def q604 (P : Params) : Obj := fnO (nthS (inS (nthS pB 14)) 1) fun n a b sc => ⟨.none, none, .func (⟨n, "StringIO.__init__", a, b, sc, 0, [], .none, .none, .none, .none, none, .none, .none, 0⟩), #[]⟩
noncomputable def q732 (P : Params) : Obj := ⟨.none, none, .fields #[], #[]⟩
noncomputable def q756 (P : Params) : Obj := fnO (nthS (inS (nthS pB 14)) 22) fun n a b sc => ⟨.none, none, .func (⟨n, "StringIO.tell", a, b, sc, 0, [], .none, .none, .none, .none, none, .none, .none, 0⟩), #[]⟩
noncomputable def q628 (P : Params) : Obj := ⟨.type "tuple", none, .seq #[] 0, #[]⟩
noncomputable def q820 (P : Params) : Obj := ⟨.type "tuple", none, .seq #[] 0, #[]⟩
noncomputable def q692 (P : Params) : Obj := ⟨.type "tuple", none, .seq #[] 0, #[]⟩
noncomputable def q788 (P : Params) : Obj := fnO (nthS (inS (nthS pB 14)) 26) fun n a b sc => ⟨.none, none, .func (⟨n, "StringIO.readline", a, b, sc, 0, [], .none, .none, .none, .none, none, .none, .none, 0⟩), #[]⟩
noncomputable def q660 (P : Params) : Obj := ⟨.none, none, .fields #[], #[]⟩
noncomputable def q596 (P : Params) : Obj := ⟨.none, none, .fields #[.int 212 0, .int 4 0, .ref 373, .int 225 0, .int 4 0, .ref 380, .int 233 0, .int 4 0, .ref 387, .int 237 0, .int 4 0, .ref 394, .int 241 0, .int 4 0, .ref 401, .int 274 0, .int 4 0, .ref 408, .int 278 0, .int 4 0, .ref 416, .int 282 0, .int 4 0, .ref 424, .int 286 0, .int 4 0, .ref 432, .int 290 0, .int 4 0, .ref 440, .int 293 0, .int 4 0, .ref 448, .int 296 0, .int 4 0, .ref 455, .int 300 0, .int 4 0, .ref 462, .int 303 0, .int 4 0, .ref 469, .int 307 0, .int 4 0, .ref 476, .int 311 0, .int 4 0, .ref 483, .int 315 0, .int 4 0, .ref 490, .int 319 0, .int 4 0, .ref 497, .int 322 0, .int 4 0, .ref 504, .int 325 0, .int 4 0, .ref 511, .int 328 0, .int 4 0, .ref 518, .int 331 0, .int 4 0, .ref 525, .int 335 0, .int 4 0, .ref 533, .int 352 0, .int 4 0, .ref 541, .int 355 0, .int 4 0, .ref 549, .int 369 0, .int 4 0, .ref 557, .int 376 0, .int 4 0, .ref 565, .int 379 0, .int 4 0, .ref 572, .int 383 0, .int 4 0, .ref 579, .int 390 0, .int 4 0, .ref 586, .int 409 0, .int 4 0, .ref 593, .int 412 0, .int 4 0, .ref 600], #[]⟩
noncomputable def q724 (P : Params) : Obj := ⟨.type "tuple", none, .seq #[] 0, #[]⟩
noncomputable def q772 (P : Params) : Obj := fnO (nthS (inS (nthS pB 14)) 24) fun n a b sc => ⟨.none, none, .func (⟨n, "StringIO.truncate", a, b, sc, 0, [], .none, .none, .none, .none, none, .none, .none, 0⟩), #[]⟩
noncomputable def q644 (P : Params) : Obj := ⟨.none, none, .fields #[], #[]⟩
noncomputable def q836 (P : Params) : Obj := ⟨.type "type", none, .cls ⟨"StringIO", [.ref 127], [.ref 604, .ref 127, .ref 100, .type "object"], 603, "StringIO", true, [], [], false, none, false⟩, #[some (.ref 360), none, some (.str "StringIO" 751), some (.str "StringIO" 759), some .none, some (.bool true)]⟩
noncomputable def q708 (P : Params) : Obj := ⟨.type "code", none, .fields #[.str "writable" 883, .str "StringIO.writable" 884, .str "/claim/cut.py" 885, .int 307 0, .int 1 0, .int 0 0, .int 0 0, .int 3 0, .ref 471, .bool true, .int 318 0, .ref 472, .none, .ref 473, .ref 474, .ref 475, .int 887 0, .int 307 0, .str "/claim/cut.py" 888], #[]⟩
noncomputable def q804 (P : Params) : Obj := ⟨.type "code", none, .fields #[.str "__iter__" 989, .str "StringIO.__iter__" 990, .str "/claim/cut.py" 991, .int 379 0, .int 1 0, .int 0 0, .int 0 0, .int 3 0, .ref 567, .bool true, .int 318 0, .ref 568, .none, .ref 569, .ref 570, .ref 571, .int 993 0, .int 379 0, .str "/claim/cut.py" 994], #[]⟩
noncomputable def q676 (P : Params) : Obj := ⟨.none, none, .fields #[], #[]⟩
noncomputable def q612 (P : Params) : Obj := ⟨.type "code", none, .fields #[.str "__translated" 776, .str "StringIO.__translated" 777, .str "/claim/cut.py" 778, .int 225 0, .int 2 0, .int 0 0, .int 0 0, .int 3 0, .ref 375, .bool true, .int 318 0, .ref 376, .none, .ref 377, .ref 378, .ref 379, .int 782 0, .int 225 0, .str "/claim/cut.py" 783], #[]⟩
noncomputable def q740 (P : Params) : Obj := ⟨.type "tuple", none, .seq #[.str "self" 921] 0, #[]⟩
noncomputable def q746 (P : Params) : Obj := ⟨.none, none, .fields #[], #[]⟩
noncomputable def q618 (P : Params) : Obj := fnO (nthS (inS (nthS pB 14)) 3) fun n a b sc => ⟨.none, none, .func (⟨n, "StringIO.__check", a, b, sc, 0, [], .none, .none, .none, .none, none, .none, .none, 0⟩), #[]⟩
noncomputable def q810 (P : Params) : Obj := fnO (nthS (inS (nthS pB 14)) 29) fun n a b sc => ⟨.none, none, .func (⟨n, "StringIO.__next__", a, b, sc, 0, [], .none, .none, .none, .none, none, .none, .none, 0⟩), #[]⟩
noncomputable def q682 (P : Params) : Obj := ⟨.type "tuple", none, .seq #[] 0, #[]⟩
noncomputable def q778 (P : Params) : Obj := ⟨.type "tuple", none, .seq #[.str "self" 962, .str "size" 963, .str "start" 964, .str "stop" 965] 0, #[]⟩
noncomputable def q650 (P : Params) : Obj := ⟨.type "property", none, .fields #[.ref 417, .none, .none, .none, .str "line_buffering" 829, .bool false], #[]⟩
noncomputable def q714 (P : Params) : Obj := fnO (nthS (inS (nthS pB 14)) 16) fun n a b sc => ⟨.none, none, .func (⟨n, "StringIO.seekable", a, b, sc, 0, [], .none, .none, .none, .none, none, .none, .none, 0⟩), #[]⟩
noncomputable def q762 (P : Params) : Obj := ⟨.type "tuple", none, .seq #[.str "self" 943, .str "pos" 944, .str "whence" 945] 0, #[]⟩
noncomputable def q634 (P : Params) : Obj := fnO (nthS (inS (nthS pB 14)) 5) fun n a b sc => ⟨.type "function", none, .func (⟨n, "StringIO.__line", a, b, sc, 3, [], .none, .none, .none, .str "io" 381, none, .ref 401, .none, 0⟩), #[]⟩
noncomputable def q826 (P : Params) : Obj := fnO (nthS (inS (nthS pB 14)) 31) fun n a b sc => ⟨.type "function", none, .func (⟨n, "StringIO.writelines", a, b, sc, 3, [], .none, .none, .none, .str "io" 381, none, .ref 593, .none, 0⟩), #[]⟩
noncomputable def q698 (P : Params) : Obj := ⟨.type "tuple", none, .seq #[.str "self" 879] 0, #[]⟩
noncomputable def q794 (P : Params) : Obj := ⟨.type "tuple", none, .seq #[.str "self" 984, .str "hint" 985] 0, #[]⟩
noncomputable def q666 (P : Params) : Obj := ⟨.type "property", none, .fields #[.ref 433, .none, .none, .none, .str "encoding" 845, .bool false], #[]⟩
noncomputable def q602 (P : Params) : Obj := ⟨.type "tuple", none, .seq #[.str "self" 770, .str "initial_value" 771, .str "newline" 772] 0, #[]⟩
noncomputable def q730 (P : Params) : Obj := fnO (nthS (inS (nthS pB 14)) 18) fun n a b sc => ⟨.type "function", none, .func (⟨n, "StringIO.flush", a, b, sc, 3, [], .none, .none, .none, .str "io" 381, none, .ref 497, .none, 0⟩), #[]⟩
noncomputable def q754 (P : Params) : Obj := ⟨.type "tuple", none, .seq #[.str "self" 935] 0, #[]⟩
noncomputable def q626 (P : Params) : Obj := ⟨.type "code", none, .fields #[.str "__check_dot" 792, .str "StringIO.__check_dot" 793, .str "/claim/cut.py" 794, .int 237 0, .int 1 0, .int 0 0, .int 0 0, .int 3 0, .ref 389, .bool true, .int 318 0, .ref 390, .none, .ref 391, .ref 392, .ref 393, .int 796 0, .int 237 0, .str "/claim/cut.py" 797], #[]⟩
noncomputable def q818 (P : Params) : Obj := ⟨.type "code", none, .fields #[.str "write" 1004, .str "StringIO.write" 1005, .str "/claim/cut.py" 1006, .int 390 0, .int 2 0, .int 2 0, .int 0 0, .int 3 0, .ref 581, .bool true, .int 318 0, .ref 582, .none, .ref 583, .ref 584, .ref 585, .int 1013 0, .int 390 0, .str "/claim/cut.py" 1014], #[]⟩
noncomputable def q690 (P : Params) : Obj := ⟨.none, none, .fields #[], #[]⟩
noncomputable def q786 (P : Params) : Obj := ⟨.type "tuple", none, .seq #[.str "self" 974, .str "size" 975] 0, #[]⟩
noncomputable def q658 (P : Params) : Obj := ⟨.type "property", none, .fields #[.ref 425, .none, .none, .none, .str "newlines" 837, .bool false], #[]⟩
noncomputable def q594 (P : Params) : Obj := ⟨.type "dict", none, .dict #[de P "__module__" 758 (.str "_io" 763), de P "__qualname__" 760 (.str "StringIO" 759), de P "__firstlineno__" 762 (.int 209 761), de P "__init__" 775 (.ref 374), de P "_StringIO__translated" 784 (.ref 381), de P "_StringIO__check" 791 (.ref 388), de P "_StringIO__check_dot" 798 (.ref 395), de P "_StringIO__line" 813 (.ref 402), de P "closed" 821 (.ref 410), de P "line_buffering" 829 (.ref 418), de P "newlines" 837 (.ref 426), de P "encoding" 845 (.ref 434), de P "errors" 853 (.ref 442), de P "close" 860 (.ref 449), de P "__enter__" 867 (.ref 456), de P "__exit__" 875 (.ref 463), de P "readable" 882 (.ref 470), de P "writable" 889 (.ref 477), de P "seekable" 896 (.ref 484), de P "isatty" 903 (.ref 491), de P "flush" 910 (.ref 498), de P "fileno" 917 (.ref 505), de P "detach" 924 (.ref 512), de P "getvalue" 931 (.ref 519), de P "tell" 938 (.ref 526), de P "seek" 948 (.ref 534), de P "truncate" 956 (.ref 542), de P "read" 968 (.ref 550), de P "readline" 978 (.ref 558), de P "readlines" 988 (.ref 566), de P "__iter__" 995 (.ref 573), de P "__next__" 1003 (.ref 580), de P "write" 1015 (.ref 587), de P "writelines" 1023 (.ref 594), de P "__repr__" 1030 (.ref 601), de P "__static_attributes__" 1034 (.ref 602)] 36, #[]⟩
noncomputable def q722 (P : Params) : Obj := ⟨.type "code", none, .fields #[.str "isatty" 897, .str "StringIO.isatty" 898, .str "/claim/cut.py" 899, .int 315 0, .int 1 0, .int 0 0, .int 0 0, .int 3 0, .ref 485, .bool true, .int 318 0, .ref 486, .none, .ref 487, .ref 488, .ref 489, .int 901 0, .int 315 0, .str "/claim/cut.py" 902], #[]⟩
noncomputable def q770 (P : Params) : Obj := ⟨.type "tuple", none, .seq #[.str "self" 952, .str "pos" 953] 0, #[]⟩
noncomputable def q642 (P : Params) : Obj := ⟨.type "property", none, .fields #[.ref 409, .none, .none, .none, .str "closed" 821, .bool false], #[]⟩
noncomputable def q834 (P : Params) : Obj := ⟨.type "tuple", none, .seq #[.str "__buf" 1031, .str "__newline" 1032, .str "__pos" 1033] 0, #[]⟩
noncomputable def q706 (P : Params) : Obj := ⟨.type "tuple", none, .seq #[] 0, #[]⟩
noncomputable def q802 (P : Params) : Obj := ⟨.type "tuple", none, .seq #[] 0, #[]⟩
noncomputable def q674 (P : Params) : Obj := ⟨.type "property", none, .fields #[.ref 441, .none, .none, .none, .str "errors" 853, .bool false], #[]⟩
noncomputable def q610 (P : Params) : Obj := ⟨.type "tuple", none, .seq #[] 0, #[]⟩
noncomputable def q738 (P : Params) : Obj := ⟨.type "tuple", none, .seq #[] 0, #[]⟩
noncomputable def q750 (P : Params) : Obj := ⟨.type "code", none, .fields #[.str "getvalue" 925, .str "StringIO.getvalue" 926, .str "/claim/cut.py" 927, .int 328 0, .int 1 0, .int 0 0, .int 0 0, .int 3 0, .ref 513, .bool true, .int 318 0, .ref 514, .none, .ref 515, .ref 516, .ref 517, .int 929 0, .int 328 0, .str "/claim/cut.py" 930], #[]⟩
noncomputable def q622 (P : Params) : Obj := ⟨.none, none, .fields #[], #[]⟩
noncomputable def q814 (P : Params) : Obj := ⟨.none, none, .fields #[], #[]⟩
noncomputable def q686 (P : Params) : Obj := fnO (nthS (inS (nthS pB 14)) 12) fun n a b sc => ⟨.none, none, .func (⟨n, "StringIO.__enter__", a, b, sc, 0, [], .none, .none, .none, .none, none, .none, .none, 0⟩), #[]⟩
noncomputable def q782 (P : Params) : Obj := fnO (nthS (inS (nthS pB 14)) 25) fun n a b sc => ⟨.type "function", none, .func (⟨n, "StringIO.read", a, b, sc, 3, [], .ref 543, .none, .none, .str "io" 381, none, .ref 549, .none, 0⟩), #[]⟩
noncomputable def q654 (P : Params) : Obj := ⟨.type "tuple", none, .seq #[] 0, #[]⟩
noncomputable def q718 (P : Params) : Obj := ⟨.none, none, .fields #[], #[]⟩
noncomputable def q766 (P : Params) : Obj := fnO (nthS (inS (nthS pB 14)) 23) fun n a b sc => ⟨.type "function", none, .func (⟨n, "StringIO.seek", a, b, sc, 3, [], .ref 527, .none, .none, .str "io" 381, none, .ref 533, .none, 0⟩), #[]⟩
noncomputable def q638 (P : Params) : Obj := ⟨.type "tuple", none, .seq #[] 0, #[]⟩
noncomputable def q830 (P : Params) : Obj := ⟨.type "tuple", none, .seq #[] 0, #[]⟩
noncomputable def q702 (P : Params) : Obj := fnO (nthS (inS (nthS pB 14)) 14) fun n a b sc => ⟨.type "function", none, .func (⟨n, "StringIO.readable", a, b, sc, 3, [], .none, .none, .none, .str "io" 381, none, .ref 469, .none, 0⟩), #[]⟩
noncomputable def q798 (P : Params) : Obj := fnO (nthS (inS (nthS pB 14)) 27) fun n a b sc => ⟨.type "function", none, .func (⟨n, "StringIO.readlines", a, b, sc, 3, [], .ref 559, .none, .none, .str "io" 381, none, .ref 565, .none, 0⟩), #[]⟩
noncomputable def q670 (P : Params) : Obj := ⟨.type "tuple", none, .seq #[] 0, #[]⟩
noncomputable def q606 (P : Params) : Obj := fnO (nthS (inS (nthS pB 14)) 1) fun n a b sc => ⟨.type "function", none, .func (⟨n, "StringIO.__init__", a, b, sc, 3, [], .ref 367, .none, .none, .str "io" 381, none, .ref 373, .none, 0⟩), #[]⟩
noncomputable def q734 (P : Params) : Obj := ⟨.type "tuple", none, .seq #[] 0, #[]⟩
noncomputable def q758 (P : Params) : Obj := fnO (nthS (inS (nthS pB 14)) 22) fun n a b sc => ⟨.type "function", none, .func (⟨n, "StringIO.tell", a, b, sc, 3, [], .none, .none, .none, .str "io" 381, none, .ref 525, .none, 0⟩), #[]⟩
noncomputable def q630 (P : Params) : Obj := ⟨.type "tuple", none, .seq #[.str "self" 802, .str "limit" 803, .str "start" 804, .str "stop" 805, .str "cut" 806, .str "newline" 807, .str "i" 808, .str "j" 809, .str "end" 810] 0, #[]⟩
noncomputable def q822 (P : Params) : Obj := ⟨.type "tuple", none, .seq #[.str "self" 1019, .str "lines" 1020] 0, #[]⟩
noncomputable def q694 (P : Params) : Obj := ⟨.type "code", none, .fields #[.str "__exit__" 868, .str "StringIO.__exit__" 869, .str "/claim/cut.py" 870, .int 300 0, .int 1 0, .int 0 0, .int 0 0, .int 7 0, .ref 457, .bool true, .int 318 0, .ref 458, .none, .ref 459, .ref 460, .ref 461, .int 873 0, .int 300 0, .str "/claim/cut.py" 874], #[]⟩
noncomputable def q790 (P : Params) : Obj := fnO (nthS (inS (nthS pB 14)) 26) fun n a b sc => ⟨.type "function", none, .func (⟨n, "StringIO.readline", a, b, sc, 3, [], .ref 551, .none, .none, .str "io" 381, none, .ref 557, .none, 0⟩), #[]⟩
noncomputable def q662 (P : Params) : Obj := ⟨.type "tuple", none, .seq #[] 0, #[]⟩
noncomputable def q598 (P : Params) : Obj := ⟨.type "frame", none, .plain, #[some (.ref 365), some (.ref 3), some (.ref 362), none, some (.str "io" 381), none, some (.ref 0)]⟩
noncomputable def q726 (P : Params) : Obj := ⟨.type "tuple", none, .seq #[.str "self" 907] 0, #[]⟩
noncomputable def q774 (P : Params) : Obj := fnO (nthS (inS (nthS pB 14)) 24) fun n a b sc => ⟨.type "function", none, .func (⟨n, "StringIO.truncate", a, b, sc, 3, [], .ref 535, .none, .none, .str "io" 381, none, .ref 541, .none, 0⟩), #[]⟩
noncomputable def q646 (P : Params) : Obj := ⟨.type "tuple", none, .seq #[] 0, #[]⟩
noncomputable def q838 (P : Params) : Obj := ⟨.type "builtin_function_or_method", none, .fields #[.builtin "object.__init_subclass__", .ref 604], #[]⟩
noncomputable def q710 (P : Params) : Obj := ⟨.type "tuple", none, .seq #[] 0, #[]⟩
noncomputable def q806 (P : Params) : Obj := ⟨.type "tuple", none, .seq #[] 0, #[]⟩
noncomputable def q678 (P : Params) : Obj := ⟨.type "tuple", none, .seq #[] 0, #[]⟩
noncomputable def q614 (P : Params) : Obj := ⟨.type "tuple", none, .seq #[] 0, #[]⟩
noncomputable def q742 (P : Params) : Obj := fnO (nthS (inS (nthS pB 14)) 20) fun n a b sc => ⟨.none, none, .func (⟨n, "StringIO.detach", a, b, sc, 0, [], .none, .none, .none, .none, none, .none, .none, 0⟩), #[]⟩
noncomputable def q1059 (P : Params) : Obj := ⟨.type "dict", none, .dict #[de P "__name__" 165 (.str "cpy313.shlex" 1097), de P "__doc__" 166 .none, de P "__package__" 167 .none, de P "__loader__" 168 (.builtin "__main__.__loader__#opaque"), de P "__spec__" 169 .none, de P "__annotations__" 170 (.ref 6), de P "__builtins__" 171 (.ref 4), de P "__file__" 173 (.str "/claim/cut.py" 172), de P "__cached__" 174 .none, de P "_sre" 275 (.ref 12), de P "deque" 317 (.type "collections.deque"), de P "_wall" 330 (.ref 44), de P "replace" 340 (.ref 51), de P "_twin_re_1" 380 (.ref 56), de P "_whence" 390 (.ref 63), de P "_index" 398 (.ref 70), de P "UnsupportedOperation" 420 (.ref 80), de P "IOBase" 452 (.ref 100), de P "BufferedIOBase" 470 (.ref 115), de P "TextIOBase" 488 (.ref 127), de P "BytesIO" 750 (.ref 357), de P "StringIO" 1037 (.ref 604), de P "_kind" 1048 (.ref 613), de P "_fspath" 1057 (.ref 620), de P "_check_arg_types" 1067 (.ref 627), de P "isabs" 1074 (.ref 634), de P "join" 1085 (.ref 641), de P "join_path" 1086 (.ref 641), de P "dirname" 1096 (.ref 648)] 29, #[]⟩
noncomputable def q1093 (P : Params) : Obj := fnO (nthS pB 20) fun n a b sc => ⟨.none, none, .func (⟨n, "join", a, b, sc, 0, [], .none, .none, .none, .none, none, .none, .none, 0⟩), #[]⟩
noncomputable def q1061 (P : Params) : Obj := ⟨.type "tuple", none, .seq #[] 0, #[]⟩
noncomputable def q1077 (P : Params) : Obj := ⟨.type "tuple", none, .seq #[.str "funcname" 1061, .str "args" 1062, .str "s" 1063, .str "k" 1064] 0, #[]⟩
noncomputable def q1101 (P : Params) : Obj := ⟨.type "code", none, .fields #[.str "dirname" 1087, .str "dirname" 1088, .str "/claim/cut.py" 1089, .int 470 0, .int 1 0, .int 0 0, .int 0 0, .int 3 0, .ref 642, .bool true, .int 318 0, .ref 643, .none, .ref 644, .ref 645, .ref 646, .int 1094 0, .int 470 0, .str "/claim/cut.py" 1095], #[]⟩
noncomputable def q1069 (P : Params) : Obj := ⟨.none, none, .fields #[], #[]⟩
noncomputable def q1085 (P : Params) : Obj := ⟨.type "tuple", none, .seq #[] 0, #[]⟩
noncomputable def q1060 (P : Params) : Obj := ⟨.none, none, .fields #[.int 3 0, .int 0 0, .ref 43, .int 7 0, .int 0 0, .ref 50, .int 14 0, .int 0 0, .ref 62, .int 19 0, .int 0 0, .ref 69, .int 26 0, .int 0 0, .ref 76, .int 28 0, .int 0 0, .ref 89, .int 35 0, .int 0 0, .ref 111, .int 37 0, .int 0 0, .ref 123, .int 39 0, .int 0 0, .ref 135, .int 209 0, .int 0 0, .ref 365, .int 415 0, .int 0 0, .ref 612, .int 436 0, .int 0 0, .ref 619, .int 441 0, .int 0 0, .ref 626, .int 446 0, .int 0 0, .ref 633, .int 449 0, .int 0 0, .ref 640, .int 470 0, .int 0 0, .ref 647], #[]⟩
noncomputable def q1097 (P : Params) : Obj := ⟨.none, none, .fields #[], #[]⟩
noncomputable def q1065 (P : Params) : Obj := fnO (nthS pB 16) fun n a b sc => ⟨.none, none, .func (⟨n, "_kind", a, b, sc, 0, [], .none, .none, .none, .none, none, .none, .none, 0⟩), #[]⟩
noncomputable def q1081 (P : Params) : Obj := fnO (nthS pB 18) fun n a b sc => ⟨.type "function", none, .func (⟨n, "_check_arg_types", a, b, sc, 3, [], .none, .none, .none, .str "os.path" 1038, none, .ref 626, .none, 0⟩), #[]⟩
noncomputable def q1073 (P : Params) : Obj := ⟨.type "code", none, .fields #[.str "_fspath" 1049, .str "_fspath" 1050, .str "/claim/cut.py" 1051, .int 436 0, .int 2 0, .int 0 0, .int 0 0, .int 3 0, .ref 614, .bool true, .int 318 0, .ref 615, .none, .ref 616, .ref 617, .ref 618, .int 1055 0, .int 436 0, .str "/claim/cut.py" 1056], #[]⟩
noncomputable def q1089 (P : Params) : Obj := ⟨.type "tuple", none, .seq #[] 0, #[]⟩
noncomputable def q1095 (P : Params) : Obj := fnO (nthS pB 20) fun n a b sc => ⟨.type "function", none, .func (⟨n, "join", a, b, sc, 3, [], .none, .none, .none, .str "os.path" 1038, none, .ref 640, .none, 0⟩), #[]⟩
noncomputable def q1063 (P : Params) : Obj := ⟨.type "tuple", none, .seq #[.str "name" 1043, .str "x" 1044, .str "t" 1045] 0, #[]⟩
noncomputable def q1079 (P : Params) : Obj := fnO (nthS pB 18) fun n a b sc => ⟨.none, none, .func (⟨n, "_check_arg_types", a, b, sc, 0, [], .none, .none, .none, .none, none, .none, .none, 0⟩), #[]⟩
noncomputable def q1071 (P : Params) : Obj := ⟨.type "tuple", none, .seq #[] 0, #[]⟩
noncomputable def q1087 (P : Params) : Obj := ⟨.type "code", none, .fields #[.str "isabs" 1068, .str "isabs" 1069, .str "/claim/cut.py" 1070, .int 446 0, .int 1 0, .int 0 0, .int 0 0, .int 3 0, .ref 628, .bool true, .int 318 0, .ref 629, .none, .ref 630, .ref 631, .ref 632, .int 1072 0, .int 446 0, .str "/claim/cut.py" 1073], #[]⟩
noncomputable def q1099 (P : Params) : Obj := ⟨.type "tuple", none, .seq #[] 0, #[]⟩
noncomputable def q1067 (P : Params) : Obj := fnO (nthS pB 16) fun n a b sc => ⟨.type "function", none, .func (⟨n, "_kind", a, b, sc, 3, [], .none, .none, .none, .str "os.path" 1038, none, .ref 612, .none, 0⟩), #[]⟩
noncomputable def q1083 (P : Params) : Obj := ⟨.none, none, .fields #[], #[]⟩
noncomputable def q1075 (P : Params) : Obj := ⟨.type "tuple", none, .seq #[] 0, #[]⟩
noncomputable def q1091 (P : Params) : Obj := ⟨.type "tuple", none, .seq #[.str "a" 1078, .str "p" 1079, .str "b" 1080, .str "sep" 1081, .str "path" 1082] 0, #[]⟩
noncomputable def q1094 (P : Params) : Obj := ⟨.type "code", none, .fields #[.str "join" 1075, .str "join" 1076, .str "/claim/cut.py" 1077, .int 449 0, .int 1 0, .int 0 0, .int 0 0, .int 7 0, .ref 635, .bool true, .int 318 0, .ref 636, .none, .ref 637, .ref 638, .ref 639, .int 1083 0, .int 449 0, .str "/claim/cut.py" 1084], #[]⟩
noncomputable def q1062 (P : Params) : Obj := ⟨.none, none, .fields #[], #[]⟩
noncomputable def q1078 (P : Params) : Obj := ⟨.type "tuple", none, .seq #[] 0, #[]⟩
noncomputable def q1102 (P : Params) : Obj := fnO (nthS pB 22) fun n a b sc => ⟨.type "function", none, .func (⟨n, "dirname", a, b, sc, 3, [], .none, .none, .none, .str "os.path" 1038, none, .ref 647, .none, 0⟩), #[]⟩
noncomputable def q1070 (P : Params) : Obj := ⟨.type "tuple", none, .seq #[.str "name" 1052, .str "x" 1053, .str "k" 1054] 0, #[]⟩
noncomputable def q1086 (P : Params) : Obj := fnO (nthS pB 19) fun n a b sc => ⟨.none, none, .func (⟨n, "isabs", a, b, sc, 0, [], .none, .none, .none, .none, none, .none, .none, 0⟩), #[]⟩
noncomputable def q1098 (P : Params) : Obj := ⟨.type "tuple", none, .seq #[.str "p" 1090, .str "sep" 1091, .str "i" 1092, .str "head" 1093] 0, #[]⟩
noncomputable def q1066 (P : Params) : Obj := ⟨.type "code", none, .fields #[.str "_kind" 1040, .str "_kind" 1041, .str "/claim/cut.py" 1042, .int 415 0, .int 2 0, .int 0 0, .int 0 0, .int 3 0, .ref 607, .bool true, .int 318 0, .ref 608, .none, .ref 609, .ref 610, .ref 611, .int 1046 0, .int 415 0, .str "/claim/cut.py" 1047], #[]⟩
noncomputable def q1082 (P : Params) : Obj := ⟨.type "tuple", none, .seq #[] 0, #[]⟩
noncomputable def q1074 (P : Params) : Obj := fnO (nthS pB 17) fun n a b sc => ⟨.type "function", none, .func (⟨n, "_fspath", a, b, sc, 3, [], .none, .none, .none, .str "os.path" 1038, none, .ref 619, .none, 0⟩), #[]⟩
noncomputable def q1090 (P : Params) : Obj := ⟨.none, none, .fields #[], #[]⟩
noncomputable def q1096 (P : Params) : Obj := ⟨.type "tuple", none, .seq #[] 0, #[]⟩
noncomputable def q1064 (P : Params) : Obj := ⟨.type "tuple", none, .seq #[] 0, #[]⟩
noncomputable def q1080 (P : Params) : Obj := ⟨.type "code", none, .fields #[.str "_check_arg_types" 1058, .str "_check_arg_types" 1059, .str "/claim/cut.py" 1060, .int 441 0, .int 1 0, .int 0 0, .int 0 0, .int 7 0, .ref 621, .bool true, .int 318 0, .ref 622, .none, .ref 623, .ref 624, .ref 625, .int 1065 0, .int 441 0, .str "/claim/cut.py" 1066], #[]⟩
noncomputable def q1072 (P : Params) : Obj := fnO (nthS pB 17) fun n a b sc => ⟨.none, none, .func (⟨n, "_fspath", a, b, sc, 0, [], .none, .none, .none, .none, none, .none, .none, 0⟩), #[]⟩
noncomputable def q1088 (P : Params) : Obj := fnO (nthS pB 19) fun n a b sc => ⟨.type "function", none, .func (⟨n, "isabs", a, b, sc, 3, [], .none, .none, .none, .str "os.path" 1038, none, .ref 633, .none, 0⟩), #[]⟩
noncomputable def q1100 (P : Params) : Obj := fnO (nthS pB 22) fun n a b sc => ⟨.none, none, .func (⟨n, "dirname", a, b, sc, 0, [], .none, .none, .none, .none, none, .none, .none, 0⟩), #[]⟩
noncomputable def q1068 (P : Params) : Obj := ⟨.type "tuple", none, .seq #[] 0, #[]⟩
noncomputable def q1084 (P : Params) : Obj := ⟨.type "tuple", none, .seq #[.str "s" 1071] 0, #[]⟩
noncomputable def q1076 (P : Params) : Obj := ⟨.none, none, .fields #[], #[]⟩
noncomputable def q1092 (P : Params) : Obj := ⟨.type "tuple", none, .seq #[] 0, #[]⟩
noncomputable def q1278 (P : Params) : Obj := ⟨.type "dict", none, .dict #[⟨PyData.keyHash P "__name__", .str "__name__" 165, .str "law_mj0255_01" 1265⟩, ⟨PyData.keyHash P "__doc__", .str "__doc__" 166, .none⟩, ⟨PyData.keyHash P "__package__", .str "__package__" 167, .none⟩, ⟨PyData.keyHash P "__loader__", .str "__loader__" 168, .builtin "__main__.__loader__#opaque"⟩, ⟨PyData.keyHash P "__spec__", .str "__spec__" 169, .none⟩, ⟨PyData.keyHash P "__annotations__", .str "__annotations__" 170, .ref 6⟩, ⟨PyData.keyHash P "__builtins__", .str "__builtins__" 171, .ref 4⟩, ⟨PyData.keyHash P "__file__", .str "__file__" 173, .str "/claim/cut.py" 172⟩, ⟨PyData.keyHash P "__cached__", .str "__cached__" 174, .none⟩, ⟨PyData.keyHash P "_sre", .str "_sre" 275, .ref 12⟩, ⟨PyData.keyHash P "deque", .str "deque" 317, .type "collections.deque"⟩, ⟨PyData.keyHash P "_wall", .str "_wall" 330, .ref 44⟩, ⟨PyData.keyHash P "replace", .str "replace" 340, .ref 51⟩, ⟨PyData.keyHash P "_twin_re_1", .str "_twin_re_1" 380, .ref 56⟩, ⟨PyData.keyHash P "_whence", .str "_whence" 390, .ref 63⟩, ⟨PyData.keyHash P "_index", .str "_index" 398, .ref 70⟩, ⟨PyData.keyHash P "UnsupportedOperation", .str "UnsupportedOperation" 420, .ref 80⟩, ⟨PyData.keyHash P "IOBase", .str "IOBase" 452, .ref 100⟩, ⟨PyData.keyHash P "BufferedIOBase", .str "BufferedIOBase" 470, .ref 115⟩, ⟨PyData.keyHash P "TextIOBase", .str "TextIOBase" 488, .ref 127⟩, ⟨PyData.keyHash P "BytesIO", .str "BytesIO" 750, .ref 357⟩, ⟨PyData.keyHash P "StringIO", .str "StringIO" 1037, .ref 604⟩, ⟨PyData.keyHash P "_kind", .str "_kind" 1048, .ref 613⟩, ⟨PyData.keyHash P "_fspath", .str "_fspath" 1057, .ref 620⟩, ⟨PyData.keyHash P "_check_arg_types", .str "_check_arg_types" 1067, .ref 627⟩, ⟨PyData.keyHash P "isabs", .str "isabs" 1074, .ref 634⟩, ⟨PyData.keyHash P "join", .str "join" 1085, .ref 758⟩, ⟨PyData.keyHash P "join_path", .str "join_path" 1086, .ref 641⟩, ⟨PyData.keyHash P "dirname", .str "dirname" 1096, .ref 648⟩, ⟨PyData.keyHash P "shlex", .str "shlex" 1237, .ref 739⟩, ⟨PyData.keyHash P "split", .str "split" 1247, .ref 751⟩, ⟨PyData.keyHash P "join_shlex", .str "join_shlex" 1255, .ref 758⟩, ⟨PyData.keyHash P "_find_unsafe", .str "_find_unsafe" 1257, .ref 759⟩, ⟨PyData.keyHash P "quote", .str "quote" 1264, .ref 766⟩, ⟨PyData.keyHash P "_law_sign", .str "_law_sign" 1275, .ref 773⟩, ⟨PyData.keyHash P "_law_words", .str "_law_words" 1284, .ref 780⟩, ⟨PyData.keyHash P "_law_part", .str "_law_part" 1291, .ref 787⟩, ⟨PyData.keyHash P "_law_is_bare", .str "_law_is_bare" 1297, .ref 792⟩, ⟨PyData.keyHash P "_law_marked", .str "_law_marked" 1303, .ref 797⟩, ⟨PyData.keyHash P "_law_turned", .str "_law_turned" 1309, .ref 802⟩, ⟨PyData.keyHash P "_law_told", .str "_law_told" 1316, .ref 809⟩, ⟨PyData.keyHash P "law", .str "law" 1322, .ref 814⟩] 42, #[]⟩
noncomputable def q1279 (P : Params) : Obj := ⟨.none, none, .fields #[.int 3 0, .int 0 0, .ref 43, .int 7 0, .int 0 0, .ref 50, .int 14 0, .int 0 0, .ref 62, .int 19 0, .int 0 0, .ref 69, .int 26 0, .int 0 0, .ref 76, .int 28 0, .int 0 0, .ref 89, .int 35 0, .int 0 0, .ref 111, .int 37 0, .int 0 0, .ref 123, .int 39 0, .int 0 0, .ref 135, .int 209 0, .int 0 0, .ref 365, .int 415 0, .int 0 0, .ref 612, .int 436 0, .int 0 0, .ref 619, .int 441 0, .int 0 0, .ref 626, .int 446 0, .int 0 0, .ref 633, .int 449 0, .int 0 0, .ref 640, .int 470 0, .int 0 0, .ref 647, .int 479 0, .int 0 0, .ref 654, .int 731 0, .int 0 0, .ref 750, .int 739 0, .int 0 0, .ref 757, .int 743 0, .int 0 0, .ref 765, .int 750 0, .int 0 0, .ref 772, .int 760 0, .int 0 0, .ref 779, .int 767 0, .int 0 0, .ref 786, .int 769 0, .int 0 0, .ref 791, .int 772 0, .int 0 0, .ref 796, .int 776 0, .int 0 0, .ref 801, .int 784 0, .int 0 0, .ref 808, .int 789 0, .int 0 0, .ref 813], #[]⟩
noncomputable def q1105 (P : Params) : Obj := ⟨.type "tuple", none, .seq #[] 0, #[]⟩
noncomputable def q1106 (P : Params) : Obj := ⟨.type "builtin_function_or_method", none, .fields #[.builtin "type.__prepare__", .type "type"], #[]⟩
noncomputable def q1107 (P : Params) : Obj := ⟨.type "dict", none, .dict #[de P "__module__" 1106 (.str "cpy313.shlex" 1097), de P "__qualname__" 1108 (.str "shlex" 1107), de P "__firstlineno__" 1110 (.int 479 1109), de P "__init__" 1122 (.ref 663), de P "punctuation_chars" 1130 (.ref 671), de P "push_token" 1138 (.ref 678), de P "push_source" 1147 (.ref 686), de P "pop_source" 1154 (.ref 693), de P "get_token" 1166 (.ref 700), de P "read_token" 1177 (.ref 707), de P "sourcehook" 1185 (.ref 714), de P "error_leader" 1194 (.ref 722), de P "__iter__" 1201 (.ref 729), de P "__next__" 1209 (.ref 736), de P "__static_attributes__" 1230 (.ref 737)] 15, #[]⟩
noncomputable def q1108 (P : Params) : Obj := ⟨.type "tuple", none, .seq #[] 0, #[]⟩
noncomputable def q1109 (P : Params) : Obj := ⟨.none, none, .fields #[.int 481 0, .int 4 0, .ref 662, .int 523 0, .int 4 0, .ref 669, .int 526 0, .int 4 0, .ref 677, .int 529 0, .int 4 0, .ref 685, .int 542 0, .int 4 0, .ref 692, .int 549 0, .int 4 0, .ref 699, .int 576 0, .int 4 0, .ref 706, .int 713 0, .int 4 0, .ref 713, .int 720 0, .int 4 0, .ref 721, .int 723 0, .int 4 0, .ref 728, .int 726 0, .int 4 0, .ref 735], #[]⟩
noncomputable def q1110 (P : Params) : Obj := ⟨.type "code", none, .fields #[.str "shlex" 1101, .str "shlex" 1102, .str "/claim/cut.py" 1103, .int 479 0, .int 0 0, .int 0 0, .int 0 0, .int 0 0, .ref 652, .bool false, .int 318 0, .ref 653, .none, .none, .none, .none, .int 1104 0, .int 479 0, .str "/claim/cut.py" 1105], #[]⟩
noncomputable def q1111 (P : Params) : Obj := ⟨.type "frame", none, .plain, #[some (.ref 654), some (.ref 3), some (.ref 651), none, some (.str "cpy313.shlex" 1097), none, some (.ref 0)]⟩
noncomputable def q1112 (P : Params) : Obj := ⟨.type "tuple", none, .seq #[.none, .none, .bool false, .bool false] 0, #[]⟩
noncomputable def q1113 (P : Params) : Obj := ⟨.type "tuple", none, .seq #[] 0, #[]⟩
noncomputable def q1114 (P : Params) : Obj := ⟨.none, none, .fields #[], #[]⟩
noncomputable def q1115 (P : Params) : Obj := ⟨.type "tuple", none, .seq #[.str "self" 1114, .str "instream" 1115, .str "infile" 1116, .str "posix" 1117, .str "punctuation_chars" 1118, .str "t" 1119] 0, #[]⟩
noncomputable def q1116 (P : Params) : Obj := ⟨.type "tuple", none, .seq #[] 0, #[]⟩
noncomputable def q1117 (P : Params) : Obj := fnO (nthS (inS (nthS pB 24)) 0) fun n a b sc => ⟨.none, none, .func (⟨n, "shlex.__init__", a, b, sc, 0, [], .none, .none, .none, .none, none, .none, .none, 0⟩), #[]⟩
noncomputable def q1118 (P : Params) : Obj := ⟨.type "code", none, .fields #[.str "__init__" 1111, .str "shlex.__init__" 1112, .str "/claim/cut.py" 1113, .int 481 0, .int 5 0, .int 0 0, .int 0 0, .int 3 0, .ref 657, .bool true, .int 318 0, .ref 658, .none, .ref 659, .ref 660, .ref 661, .int 1120 0, .int 481 0, .str "/claim/cut.py" 1121], #[]⟩
noncomputable def q1119 (P : Params) : Obj := fnO (nthS (inS (nthS pB 24)) 0) fun n a b sc => ⟨.type "function", none, .func (⟨n, "shlex.__init__", a, b, sc, 3, [], .ref 656, .none, .none, .str "cpy313.shlex" 1097, none, .ref 662, .none, 0⟩), #[]⟩
noncomputable def q1120 (P : Params) : Obj := ⟨.type "tuple", none, .seq #[] 0, #[]⟩
noncomputable def q1121 (P : Params) : Obj := ⟨.none, none, .fields #[], #[]⟩
noncomputable def q1122 (P : Params) : Obj := ⟨.type "tuple", none, .seq #[.str "self" 1126] 0, #[]⟩
noncomputable def q1123 (P : Params) : Obj := ⟨.type "tuple", none, .seq #[] 0, #[]⟩
noncomputable def q1124 (P : Params) : Obj := fnO (nthS (inS (nthS pB 24)) 1) fun n a b sc => ⟨.none, none, .func (⟨n, "shlex.punctuation_chars", a, b, sc, 0, [], .none, .none, .none, .none, none, .none, .none, 0⟩), #[]⟩
noncomputable def q1125 (P : Params) : Obj := ⟨.type "code", none, .fields #[.str "punctuation_chars" 1123, .str "shlex.punctuation_chars" 1124, .str "/claim/cut.py" 1125, .int 522 0, .int 1 0, .int 0 0, .int 0 0, .int 3 0, .ref 664, .bool true, .int 318 0, .ref 665, .none, .ref 666, .ref 667, .ref 668, .int 1127 0, .int 522 0, .str "/claim/cut.py" 1128], #[]⟩
noncomputable def q1126 (P : Params) : Obj := fnO (nthS (inS (nthS pB 24)) 1) fun n a b sc => ⟨.type "function", none, .func (⟨n, "shlex.punctuation_chars", a, b, sc, 3, [], .none, .none, .none, .str "cpy313.shlex" 1097, none, .ref 669, .none, 0⟩), #[]⟩
noncomputable def q1127 (P : Params) : Obj := ⟨.type "property", none, .fields #[.ref 670, .none, .none, .none, .str "punctuation_chars" 1130, .bool false], #[]⟩
noncomputable def q1128 (P : Params) : Obj := ⟨.type "tuple", none, .seq #[] 0, #[]⟩
noncomputable def q1129 (P : Params) : Obj := ⟨.none, none, .fields #[], #[]⟩
noncomputable def q1130 (P : Params) : Obj := ⟨.type "tuple", none, .seq #[.str "self" 1134, .str "tok" 1135] 0, #[]⟩
noncomputable def q1131 (P : Params) : Obj := ⟨.type "tuple", none, .seq #[] 0, #[]⟩
noncomputable def q1132 (P : Params) : Obj := fnO (nthS (inS (nthS pB 24)) 2) fun n a b sc => ⟨.none, none, .func (⟨n, "shlex.push_token", a, b, sc, 0, [], .none, .none, .none, .none, none, .none, .none, 0⟩), #[]⟩
noncomputable def q1133 (P : Params) : Obj := ⟨.type "code", none, .fields #[.str "push_token" 1131, .str "shlex.push_token" 1132, .str "/claim/cut.py" 1133, .int 526 0, .int 2 0, .int 0 0, .int 0 0, .int 3 0, .ref 672, .bool true, .int 318 0, .ref 673, .none, .ref 674, .ref 675, .ref 676, .int 1136 0, .int 526 0, .str "/claim/cut.py" 1137], #[]⟩
noncomputable def q1134 (P : Params) : Obj := fnO (nthS (inS (nthS pB 24)) 2) fun n a b sc => ⟨.type "function", none, .func (⟨n, "shlex.push_token", a, b, sc, 3, [], .none, .none, .none, .str "cpy313.shlex" 1097, none, .ref 677, .none, 0⟩), #[]⟩
noncomputable def q1135 (P : Params) : Obj := ⟨.type "tuple", none, .seq #[.none] 0, #[]⟩
noncomputable def q1136 (P : Params) : Obj := ⟨.type "tuple", none, .seq #[] 0, #[]⟩
noncomputable def q1137 (P : Params) : Obj := ⟨.none, none, .fields #[], #[]⟩
noncomputable def q1138 (P : Params) : Obj := ⟨.type "tuple", none, .seq #[.str "self" 1142, .str "newstream" 1143, .str "newfile" 1144] 0, #[]⟩
noncomputable def q1139 (P : Params) : Obj := ⟨.type "tuple", none, .seq #[] 0, #[]⟩
noncomputable def q1140 (P : Params) : Obj := fnO (nthS (inS (nthS pB 24)) 3) fun n a b sc => ⟨.none, none, .func (⟨n, "shlex.push_source", a, b, sc, 0, [], .none, .none, .none, .none, none, .none, .none, 0⟩), #[]⟩
noncomputable def q1141 (P : Params) : Obj := ⟨.type "code", none, .fields #[.str "push_source" 1139, .str "shlex.push_source" 1140, .str "/claim/cut.py" 1141, .int 529 0, .int 3 0, .int 0 0, .int 0 0, .int 3 0, .ref 680, .bool true, .int 318 0, .ref 681, .none, .ref 682, .ref 683, .ref 684, .int 1145 0, .int 529 0, .str "/claim/cut.py" 1146], #[]⟩
noncomputable def q1142 (P : Params) : Obj := fnO (nthS (inS (nthS pB 24)) 3) fun n a b sc => ⟨.type "function", none, .func (⟨n, "shlex.push_source", a, b, sc, 3, [], .ref 679, .none, .none, .str "cpy313.shlex" 1097, none, .ref 685, .none, 0⟩), #[]⟩
noncomputable def q1143 (P : Params) : Obj := ⟨.type "tuple", none, .seq #[] 0, #[]⟩
noncomputable def q1144 (P : Params) : Obj := ⟨.none, none, .fields #[], #[]⟩
noncomputable def q1145 (P : Params) : Obj := ⟨.type "tuple", none, .seq #[.str "self" 1151] 0, #[]⟩
noncomputable def q1146 (P : Params) : Obj := ⟨.type "tuple", none, .seq #[] 0, #[]⟩
noncomputable def q1147 (P : Params) : Obj := fnO (nthS (inS (nthS pB 24)) 4) fun n a b sc => ⟨.none, none, .func (⟨n, "shlex.pop_source", a, b, sc, 0, [], .none, .none, .none, .none, none, .none, .none, 0⟩), #[]⟩
noncomputable def q1148 (P : Params) : Obj := ⟨.type "code", none, .fields #[.str "pop_source" 1148, .str "shlex.pop_source" 1149, .str "/claim/cut.py" 1150, .int 542 0, .int 1 0, .int 0 0, .int 0 0, .int 3 0, .ref 687, .bool true, .int 318 0, .ref 688, .none, .ref 689, .ref 690, .ref 691, .int 1152 0, .int 542 0, .str "/claim/cut.py" 1153], #[]⟩
noncomputable def q1149 (P : Params) : Obj := fnO (nthS (inS (nthS pB 24)) 4) fun n a b sc => ⟨.type "function", none, .func (⟨n, "shlex.pop_source", a, b, sc, 3, [], .none, .none, .none, .str "cpy313.shlex" 1097, none, .ref 692, .none, 0⟩), #[]⟩
noncomputable def q1150 (P : Params) : Obj := ⟨.type "tuple", none, .seq #[] 0, #[]⟩
noncomputable def q1151 (P : Params) : Obj := ⟨.none, none, .fields #[], #[]⟩
noncomputable def q1152 (P : Params) : Obj := ⟨.type "tuple", none, .seq #[.str "self" 1158, .str "tok" 1159, .str "raw" 1160, .str "spec" 1161, .str "newfile" 1162, .str "newstream" 1163] 0, #[]⟩
noncomputable def q1153 (P : Params) : Obj := ⟨.type "tuple", none, .seq #[] 0, #[]⟩
noncomputable def q1154 (P : Params) : Obj := fnO (nthS (inS (nthS pB 24)) 5) fun n a b sc => ⟨.none, none, .func (⟨n, "shlex.get_token", a, b, sc, 0, [], .none, .none, .none, .none, none, .none, .none, 0⟩), #[]⟩
noncomputable def q1155 (P : Params) : Obj := ⟨.type "code", none, .fields #[.str "get_token" 1155, .str "shlex.get_token" 1156, .str "/claim/cut.py" 1157, .int 549 0, .int 1 0, .int 0 0, .int 0 0, .int 3 0, .ref 694, .bool true, .int 318 0, .ref 695, .none, .ref 696, .ref 697, .ref 698, .int 1164 0, .int 549 0, .str "/claim/cut.py" 1165], #[]⟩
noncomputable def q1156 (P : Params) : Obj := fnO (nthS (inS (nthS pB 24)) 5) fun n a b sc => ⟨.type "function", none, .func (⟨n, "shlex.get_token", a, b, sc, 3, [], .none, .none, .none, .str "cpy313.shlex" 1097, none, .ref 699, .none, 0⟩), #[]⟩
noncomputable def q1157 (P : Params) : Obj := ⟨.type "tuple", none, .seq #[] 0, #[]⟩
noncomputable def q1158 (P : Params) : Obj := ⟨.none, none, .fields #[], #[]⟩
noncomputable def q1159 (P : Params) : Obj := ⟨.type "tuple", none, .seq #[.str "self" 1170, .str "quoted" 1171, .str "escapedstate" 1172, .str "nextchar" 1173, .str "result" 1174] 0, #[]⟩
noncomputable def q1160 (P : Params) : Obj := ⟨.type "tuple", none, .seq #[] 0, #[]⟩
noncomputable def q1161 (P : Params) : Obj := fnO (nthS (inS (nthS pB 24)) 6) fun n a b sc => ⟨.none, none, .func (⟨n, "shlex.read_token", a, b, sc, 0, [], .none, .none, .none, .none, none, .none, .none, 0⟩), #[]⟩
noncomputable def q1162 (P : Params) : Obj := ⟨.type "code", none, .fields #[.str "read_token" 1167, .str "shlex.read_token" 1168, .str "/claim/cut.py" 1169, .int 576 0, .int 1 0, .int 0 0, .int 0 0, .int 3 0, .ref 701, .bool true, .int 318 0, .ref 702, .none, .ref 703, .ref 704, .ref 705, .int 1175 0, .int 576 0, .str "/claim/cut.py" 1176], #[]⟩
noncomputable def q1163 (P : Params) : Obj := fnO (nthS (inS (nthS pB 24)) 6) fun n a b sc => ⟨.type "function", none, .func (⟨n, "shlex.read_token", a, b, sc, 3, [], .none, .none, .none, .str "cpy313.shlex" 1097, none, .ref 706, .none, 0⟩), #[]⟩
noncomputable def q1164 (P : Params) : Obj := ⟨.type "tuple", none, .seq #[] 0, #[]⟩
noncomputable def q1165 (P : Params) : Obj := ⟨.none, none, .fields #[], #[]⟩
noncomputable def q1166 (P : Params) : Obj := ⟨.type "tuple", none, .seq #[.str "self" 1181, .str "newfile" 1182] 0, #[]⟩
noncomputable def q1167 (P : Params) : Obj := ⟨.type "tuple", none, .seq #[] 0, #[]⟩
noncomputable def q1168 (P : Params) : Obj := fnO (nthS (inS (nthS pB 24)) 7) fun n a b sc => ⟨.none, none, .func (⟨n, "shlex.sourcehook", a, b, sc, 0, [], .none, .none, .none, .none, none, .none, .none, 0⟩), #[]⟩
noncomputable def q1169 (P : Params) : Obj := ⟨.type "code", none, .fields #[.str "sourcehook" 1178, .str "shlex.sourcehook" 1179, .str "/claim/cut.py" 1180, .int 713 0, .int 2 0, .int 0 0, .int 0 0, .int 3 0, .ref 708, .bool true, .int 318 0, .ref 709, .none, .ref 710, .ref 711, .ref 712, .int 1183 0, .int 713 0, .str "/claim/cut.py" 1184], #[]⟩
noncomputable def q1170 (P : Params) : Obj := fnO (nthS (inS (nthS pB 24)) 7) fun n a b sc => ⟨.type "function", none, .func (⟨n, "shlex.sourcehook", a, b, sc, 3, [], .none, .none, .none, .str "cpy313.shlex" 1097, none, .ref 713, .none, 0⟩), #[]⟩
noncomputable def q1171 (P : Params) : Obj := ⟨.type "tuple", none, .seq #[.none, .none] 0, #[]⟩
noncomputable def q1172 (P : Params) : Obj := ⟨.type "tuple", none, .seq #[] 0, #[]⟩
noncomputable def q1173 (P : Params) : Obj := ⟨.none, none, .fields #[], #[]⟩
noncomputable def q1174 (P : Params) : Obj := ⟨.type "tuple", none, .seq #[.str "self" 1189, .str "infile" 1190, .str "lineno" 1191] 0, #[]⟩
noncomputable def q1175 (P : Params) : Obj := ⟨.type "tuple", none, .seq #[] 0, #[]⟩
noncomputable def q1176 (P : Params) : Obj := fnO (nthS (inS (nthS pB 24)) 8) fun n a b sc => ⟨.none, none, .func (⟨n, "shlex.error_leader", a, b, sc, 0, [], .none, .none, .none, .none, none, .none, .none, 0⟩), #[]⟩
noncomputable def q1177 (P : Params) : Obj := ⟨.type "code", none, .fields #[.str "error_leader" 1186, .str "shlex.error_leader" 1187, .str "/claim/cut.py" 1188, .int 720 0, .int 3 0, .int 0 0, .int 0 0, .int 3 0, .ref 716, .bool true, .int 318 0, .ref 717, .none, .ref 718, .ref 719, .ref 720, .int 1192 0, .int 720 0, .str "/claim/cut.py" 1193], #[]⟩
noncomputable def q1178 (P : Params) : Obj := fnO (nthS (inS (nthS pB 24)) 8) fun n a b sc => ⟨.type "function", none, .func (⟨n, "shlex.error_leader", a, b, sc, 3, [], .ref 715, .none, .none, .str "cpy313.shlex" 1097, none, .ref 721, .none, 0⟩), #[]⟩
noncomputable def q1179 (P : Params) : Obj := ⟨.type "tuple", none, .seq #[] 0, #[]⟩
noncomputable def q1180 (P : Params) : Obj := ⟨.none, none, .fields #[], #[]⟩
noncomputable def q1181 (P : Params) : Obj := ⟨.type "tuple", none, .seq #[.str "self" 1198] 0, #[]⟩
noncomputable def q1182 (P : Params) : Obj := ⟨.type "tuple", none, .seq #[] 0, #[]⟩
noncomputable def q1183 (P : Params) : Obj := fnO (nthS (inS (nthS pB 24)) 9) fun n a b sc => ⟨.none, none, .func (⟨n, "shlex.__iter__", a, b, sc, 0, [], .none, .none, .none, .none, none, .none, .none, 0⟩), #[]⟩
noncomputable def q1184 (P : Params) : Obj := ⟨.type "code", none, .fields #[.str "__iter__" 1195, .str "shlex.__iter__" 1196, .str "/claim/cut.py" 1197, .int 723 0, .int 1 0, .int 0 0, .int 0 0, .int 3 0, .ref 723, .bool true, .int 318 0, .ref 724, .none, .ref 725, .ref 726, .ref 727, .int 1199 0, .int 723 0, .str "/claim/cut.py" 1200], #[]⟩
noncomputable def q1185 (P : Params) : Obj := fnO (nthS (inS (nthS pB 24)) 9) fun n a b sc => ⟨.type "function", none, .func (⟨n, "shlex.__iter__", a, b, sc, 3, [], .none, .none, .none, .str "cpy313.shlex" 1097, none, .ref 728, .none, 0⟩), #[]⟩
noncomputable def q1186 (P : Params) : Obj := ⟨.type "tuple", none, .seq #[] 0, #[]⟩
noncomputable def q1187 (P : Params) : Obj := ⟨.none, none, .fields #[], #[]⟩
noncomputable def q1188 (P : Params) : Obj := ⟨.type "tuple", none, .seq #[.str "self" 1205, .str "token" 1206] 0, #[]⟩
noncomputable def q1189 (P : Params) : Obj := ⟨.type "tuple", none, .seq #[] 0, #[]⟩
noncomputable def q1190 (P : Params) : Obj := fnO (nthS (inS (nthS pB 24)) 10) fun n a b sc => ⟨.none, none, .func (⟨n, "shlex.__next__", a, b, sc, 0, [], .none, .none, .none, .none, none, .none, .none, 0⟩), #[]⟩
noncomputable def q1191 (P : Params) : Obj := ⟨.type "code", none, .fields #[.str "__next__" 1202, .str "shlex.__next__" 1203, .str "/claim/cut.py" 1204, .int 726 0, .int 1 0, .int 0 0, .int 0 0, .int 3 0, .ref 730, .bool true, .int 318 0, .ref 731, .none, .ref 732, .ref 733, .ref 734, .int 1207 0, .int 726 0, .str "/claim/cut.py" 1208], #[]⟩
noncomputable def q1192 (P : Params) : Obj := fnO (nthS (inS (nthS pB 24)) 10) fun n a b sc => ⟨.type "function", none, .func (⟨n, "shlex.__next__", a, b, sc, 3, [], .none, .none, .none, .str "cpy313.shlex" 1097, none, .ref 735, .none, 0⟩), #[]⟩
noncomputable def q1193 (P : Params) : Obj := ⟨.type "tuple", none, .seq #[.str "_punctuation_chars" 1210, .str "_pushback_chars" 1211, .str "commenters" 1212, .str "debug" 1213, .str "eof" 1214, .str "escape" 1215, .str "escapedquotes" 1216, .str "filestack" 1217, .str "infile" 1218, .str "instream" 1219, .str "lineno" 1220, .str "posix" 1221, .str "pushback" 1222, .str "quotes" 1223, .str "source" 1224, .str "state" 1225, .str "token" 1226, .str "whitespace" 1227, .str "whitespace_split" 1228, .str "wordchars" 1229] 0, #[]⟩
noncomputable def q1194 (P : Params) : Obj := ⟨.type "dict", none, .dict #[⟨PyData.keyHash P "__module__", .str "__module__" 1106, .str "cpy313.shlex" 1097⟩, ⟨PyData.keyHash P "__firstlineno__", .str "__firstlineno__" 1110, .int 479 1109⟩, ⟨PyData.keyHash P "__init__", .str "__init__" 1122, .ref 663⟩, ⟨PyData.keyHash P "punctuation_chars", .str "punctuation_chars" 1130, .ref 671⟩, ⟨PyData.keyHash P "push_token", .str "push_token" 1138, .ref 678⟩, ⟨PyData.keyHash P "push_source", .str "push_source" 1147, .ref 686⟩, ⟨PyData.keyHash P "pop_source", .str "pop_source" 1154, .ref 693⟩, ⟨PyData.keyHash P "get_token", .str "get_token" 1166, .ref 700⟩, ⟨PyData.keyHash P "read_token", .str "read_token" 1177, .ref 707⟩, ⟨PyData.keyHash P "sourcehook", .str "sourcehook" 1185, .ref 714⟩, ⟨PyData.keyHash P "error_leader", .str "error_leader" 1194, .ref 722⟩, ⟨PyData.keyHash P "__iter__", .str "__iter__" 1201, .ref 729⟩, ⟨PyData.keyHash P "__next__", .str "__next__" 1209, .ref 736⟩, ⟨PyData.keyHash P "__static_attributes__", .str "__static_attributes__" 1230, .ref 737⟩, ⟨PyData.keyHash P "__dict__", .str "__dict__" 1232, .ref 740⟩, ⟨PyData.keyHash P "__weakref__", .str "__weakref__" 1234, .ref 741⟩, ⟨PyData.keyHash P "__doc__", .str "__doc__" 1235, .none⟩] 4, #[]⟩
noncomputable def q1195 (P : Params) : Obj := ⟨.type "type", none, .cls ⟨"shlex", [.type "object"], [.ref 739, .type "object"], 738, "shlex", true, [], [], false, none, false⟩, #[none, none, some (.str "shlex" 1099), some (.str "shlex" 1107), some (.builtin "object.__new__"), some (.bool true)]⟩
noncomputable def q1196 (P : Params) : Obj := ⟨.type "getset_descriptor", none, .fields #[.str "__dict__" 1231, .ref 739, .builtin "function.__dict__", .builtin "function.__dict__#set"], #[]⟩
noncomputable def q1197 (P : Params) : Obj := ⟨.type "getset_descriptor", none, .fields #[.str "__weakref__" 1233, .ref 739, .builtin "ExceptionGroup.__weakref__", .none], #[]⟩
noncomputable def q1198 (P : Params) : Obj := ⟨.type "super", none, .fields #[.ref 739, .ref 739, .ref 739], #[]⟩
noncomputable def q1199 (P : Params) : Obj := ⟨.type "builtin_function_or_method", none, .fields #[.builtin "object.__init_subclass__", .ref 739], #[]⟩
noncomputable def q1280 (P : Params) : Obj := ⟨.type "tuple", none, .seq #[.bool false, .bool true] 0, #[]⟩
noncomputable def q1281 (P : Params) : Obj := ⟨.type "tuple", none, .seq #[] 0, #[]⟩
noncomputable def q1282 (P : Params) : Obj := ⟨.none, none, .fields #[], #[]⟩
noncomputable def q1283 (P : Params) : Obj := ⟨.type "tuple", none, .seq #[.str "s" 1241, .str "comments" 1242, .str "posix" 1243, .str "lex" 1244] 0, #[]⟩
noncomputable def q1284 (P : Params) : Obj := ⟨.type "tuple", none, .seq #[] 0, #[]⟩
noncomputable def q1285 (P : Params) : Obj := fnO (nthS pB 25) fun n a b sc => ⟨.none, none, .func (⟨n, "split", a, b, sc, 0, [], .none, .none, .none, .none, none, .none, .none, 0⟩), #[]⟩
noncomputable def q1286 (P : Params) : Obj := ⟨.type "code", none, .fields #[.str "split" 1238, .str "split" 1239, .str "/claim/cut.py" 1240, .int 731 0, .int 3 0, .int 0 0, .int 0 0, .int 3 0, .ref 745, .bool true, .int 318 0, .ref 746, .none, .ref 747, .ref 748, .ref 749, .int 1245 0, .int 731 0, .str "/claim/cut.py" 1246], #[]⟩
noncomputable def q1287 (P : Params) : Obj := fnO (nthS pB 25) fun n a b sc => ⟨.type "function", none, .func (⟨n, "split", a, b, sc, 3, [], .ref 744, .none, .none, .str "cpy313.shlex" 1097, none, .ref 750, .none, 0⟩), #[]⟩
noncomputable def q1288 (P : Params) : Obj := ⟨.type "tuple", none, .seq #[] 0, #[]⟩
noncomputable def q1289 (P : Params) : Obj := ⟨.none, none, .fields #[], #[]⟩
noncomputable def q1290 (P : Params) : Obj := ⟨.type "tuple", none, .seq #[.str "split_command" 1251] 0, #[]⟩
noncomputable def q1291 (P : Params) : Obj := ⟨.type "tuple", none, .seq #[] 0, #[]⟩
noncomputable def q1292 (P : Params) : Obj := fnO (nthS pB 26) fun n a b sc => ⟨.none, none, .func (⟨n, "join", a, b, sc, 0, [], .none, .none, .none, .none, none, .none, .none, 0⟩), #[]⟩
noncomputable def q1293 (P : Params) : Obj := ⟨.type "code", none, .fields #[.str "join" 1248, .str "join" 1249, .str "/claim/cut.py" 1250, .int 739 0, .int 1 0, .int 0 0, .int 0 0, .int 3 0, .ref 752, .bool true, .int 318 0, .ref 753, .none, .ref 754, .ref 755, .ref 756, .int 1252 0, .int 739 0, .str "/claim/cut.py" 1253], #[]⟩
noncomputable def q1294 (P : Params) : Obj := fnO (nthS pB 26) fun n a b sc => ⟨.type "function", none, .func (⟨n, "join", a, b, sc, 3, [], .none, .none, .none, .str "cpy313.shlex" 1097, none, .ref 757, .none, 0⟩), #[]⟩
noncomputable def q1295 (P : Params) : Obj := ⟨.type "builtin_function_or_method", none, .fields #[.builtin "re.Pattern.search", .ref 56], #[]⟩
noncomputable def q1296 (P : Params) : Obj := ⟨.type "tuple", none, .seq #[] 0, #[]⟩
noncomputable def q1297 (P : Params) : Obj := ⟨.none, none, .fields #[], #[]⟩
noncomputable def q1298 (P : Params) : Obj := ⟨.type "tuple", none, .seq #[.str "s" 1261] 0, #[]⟩
noncomputable def q1299 (P : Params) : Obj := ⟨.type "tuple", none, .seq #[] 0, #[]⟩
noncomputable def q1300 (P : Params) : Obj := fnO (nthS pB 29) fun n a b sc => ⟨.none, none, .func (⟨n, "quote", a, b, sc, 0, [], .none, .none, .none, .none, none, .none, .none, 0⟩), #[]⟩
noncomputable def q1301 (P : Params) : Obj := ⟨.type "code", none, .fields #[.str "quote" 1258, .str "quote" 1259, .str "/claim/cut.py" 1260, .int 743 0, .int 1 0, .int 0 0, .int 0 0, .int 3 0, .ref 760, .bool true, .int 318 0, .ref 761, .none, .ref 762, .ref 763, .ref 764, .int 1262 0, .int 743 0, .str "/claim/cut.py" 1263], #[]⟩
noncomputable def q1302 (P : Params) : Obj := fnO (nthS pB 29) fun n a b sc => ⟨.type "function", none, .func (⟨n, "quote", a, b, sc, 3, [], .none, .none, .none, .str "cpy313.shlex" 1097, none, .ref 765, .none, 0⟩), #[]⟩
noncomputable def q1303 (P : Params) : Obj := ⟨.type "tuple", none, .seq #[] 0, #[]⟩
noncomputable def q1304 (P : Params) : Obj := ⟨.none, none, .fields #[], #[]⟩
noncomputable def q1305 (P : Params) : Obj := ⟨.type "tuple", none, .seq #[.str "x" 1270, .str "kind" 1271, .str "code" 1272] 0, #[]⟩
noncomputable def q1306 (P : Params) : Obj := ⟨.type "tuple", none, .seq #[] 0, #[]⟩
noncomputable def q1307 (P : Params) : Obj := fnO (nthS pB 31) fun n a b sc => ⟨.none, none, .func (⟨n, "_law_sign", a, b, sc, 0, [], .none, .none, .none, .none, none, .none, .none, 0⟩), #[]⟩
noncomputable def q1308 (P : Params) : Obj := ⟨.type "code", none, .fields #[.str "_law_sign" 1267, .str "_law_sign" 1268, .str "/claim/cut.py" 1269, .int 750 0, .int 1 0, .int 0 0, .int 0 0, .int 3 0, .ref 767, .bool true, .int 318 0, .ref 768, .none, .ref 769, .ref 770, .ref 771, .int 1273 0, .int 750 0, .str "/claim/cut.py" 1274], #[]⟩
noncomputable def q1309 (P : Params) : Obj := fnO (nthS pB 31) fun n a b sc => ⟨.type "function", none, .func (⟨n, "_law_sign", a, b, sc, 3, [], .none, .none, .none, .str "law_mj0255_01" 1265, none, .ref 772, .none, 0⟩), #[]⟩
noncomputable def q1310 (P : Params) : Obj := ⟨.type "tuple", none, .seq #[] 0, #[]⟩
noncomputable def q1311 (P : Params) : Obj := ⟨.none, none, .fields #[], #[]⟩
noncomputable def q1312 (P : Params) : Obj := ⟨.type "tuple", none, .seq #[.str "numbers" 1279, .str "words" 1280, .str "x" 1281] 0, #[]⟩
noncomputable def q1313 (P : Params) : Obj := ⟨.type "tuple", none, .seq #[] 0, #[]⟩
noncomputable def q1314 (P : Params) : Obj := fnO (nthS pB 32) fun n a b sc => ⟨.none, none, .func (⟨n, "_law_words", a, b, sc, 0, [], .none, .none, .none, .none, none, .none, .none, 0⟩), #[]⟩
noncomputable def q1315 (P : Params) : Obj := ⟨.type "code", none, .fields #[.str "_law_words" 1276, .str "_law_words" 1277, .str "/claim/cut.py" 1278, .int 760 0, .int 1 0, .int 0 0, .int 0 0, .int 3 0, .ref 774, .bool true, .int 318 0, .ref 775, .none, .ref 776, .ref 777, .ref 778, .int 1282 0, .int 760 0, .str "/claim/cut.py" 1283], #[]⟩
noncomputable def q1316 (P : Params) : Obj := fnO (nthS pB 32) fun n a b sc => ⟨.type "function", none, .func (⟨n, "_law_words", a, b, sc, 3, [], .none, .none, .none, .str "law_mj0255_01" 1265, none, .ref 779, .none, 0⟩), #[]⟩
noncomputable def q1317 (P : Params) : Obj := ⟨.type "tuple", none, .seq #[] 0, #[]⟩
noncomputable def q1318 (P : Params) : Obj := ⟨.none, none, .fields #[], #[]⟩
noncomputable def q1319 (P : Params) : Obj := ⟨.type "tuple", none, .seq #[.str "place" 1288] 0, #[]⟩
noncomputable def q1320 (P : Params) : Obj := ⟨.type "tuple", none, .seq #[] 0, #[]⟩
noncomputable def q1321 (P : Params) : Obj := fnO (nthS pB 33) fun n a b sc => ⟨.none, none, .func (⟨n, "_law_part", a, b, sc, 0, [], .none, .none, .none, .none, none, .none, .none, 0⟩), #[]⟩
noncomputable def q1322 (P : Params) : Obj := ⟨.type "code", none, .fields #[.str "_law_part" 1285, .str "_law_part" 1286, .str "/claim/cut.py" 1287, .int 767 0, .int 1 0, .int 0 0, .int 0 0, .int 3 0, .ref 781, .bool true, .int 318 0, .ref 782, .none, .ref 783, .ref 784, .ref 785, .int 1289 0, .int 767 0, .str "/claim/cut.py" 1290], #[]⟩
noncomputable def q1323 (P : Params) : Obj := fnO (nthS pB 33) fun n a b sc => ⟨.type "function", none, .func (⟨n, "_law_part", a, b, sc, 3, [], .none, .none, .none, .str "law_mj0255_01" 1265, none, .ref 786, .none, 0⟩), #[]⟩
noncomputable def q1324 (P : Params) : Obj := ⟨.type "tuple", none, .seq #[] 0, #[]⟩
noncomputable def q1325 (P : Params) : Obj := ⟨.none, none, .fields #[], #[]⟩
noncomputable def q1326 (P : Params) : Obj := fnO (nthS pB 34) fun n a b sc => ⟨.none, none, .func (⟨n, "_law_is_bare", a, b, sc, 0, [], .none, .none, .none, .none, none, .none, .none, 0⟩), #[]⟩
noncomputable def q1327 (P : Params) : Obj := ⟨.type "code", none, .fields #[.str "_law_is_bare" 1292, .str "_law_is_bare" 1293, .str "/claim/cut.py" 1294, .int 769 0, .int 1 0, .int 0 0, .int 0 0, .int 3 0, .ref 788, .bool true, .int 318 0, .ref 789, .none, .none, .none, .ref 790, .int 1295 0, .int 769 0, .str "/claim/cut.py" 1296], #[]⟩
noncomputable def q1328 (P : Params) : Obj := fnO (nthS pB 34) fun n a b sc => ⟨.type "function", none, .func (⟨n, "_law_is_bare", a, b, sc, 3, [], .none, .none, .none, .str "law_mj0255_01" 1265, none, .ref 791, .none, 0⟩), #[]⟩
noncomputable def q1329 (P : Params) : Obj := ⟨.type "tuple", none, .seq #[] 0, #[]⟩
noncomputable def q1330 (P : Params) : Obj := ⟨.none, none, .fields #[], #[]⟩
noncomputable def q1331 (P : Params) : Obj := fnO (nthS pB 35) fun n a b sc => ⟨.none, none, .func (⟨n, "_law_marked", a, b, sc, 0, [], .none, .none, .none, .none, none, .none, .none, 0⟩), #[]⟩
noncomputable def q1332 (P : Params) : Obj := ⟨.type "code", none, .fields #[.str "_law_marked" 1298, .str "_law_marked" 1299, .str "/claim/cut.py" 1300, .int 772 0, .int 2 0, .int 0 0, .int 0 0, .int 3 0, .ref 793, .bool true, .int 318 0, .ref 794, .none, .none, .none, .ref 795, .int 1301 0, .int 772 0, .str "/claim/cut.py" 1302], #[]⟩
noncomputable def q1333 (P : Params) : Obj := fnO (nthS pB 35) fun n a b sc => ⟨.type "function", none, .func (⟨n, "_law_marked", a, b, sc, 3, [], .none, .none, .none, .str "law_mj0255_01" 1265, none, .ref 796, .none, 0⟩), #[]⟩
noncomputable def q1334 (P : Params) : Obj := ⟨.type "tuple", none, .seq #[] 0, #[]⟩
noncomputable def q1335 (P : Params) : Obj := ⟨.none, none, .fields #[], #[]⟩
noncomputable def q1336 (P : Params) : Obj := fnO (nthS pB 36) fun n a b sc => ⟨.none, none, .func (⟨n, "_law_turned", a, b, sc, 0, [], .none, .none, .none, .none, none, .none, .none, 0⟩), #[]⟩
noncomputable def q1337 (P : Params) : Obj := ⟨.type "code", none, .fields #[.str "_law_turned" 1304, .str "_law_turned" 1305, .str "/claim/cut.py" 1306, .int 776 0, .int 2 0, .int 0 0, .int 0 0, .int 3 0, .ref 798, .bool true, .int 318 0, .ref 799, .none, .none, .none, .ref 800, .int 1307 0, .int 776 0, .str "/claim/cut.py" 1308], #[]⟩
noncomputable def q1338 (P : Params) : Obj := fnO (nthS pB 36) fun n a b sc => ⟨.type "function", none, .func (⟨n, "_law_turned", a, b, sc, 3, [], .none, .none, .none, .str "law_mj0255_01" 1265, none, .ref 801, .none, 0⟩), #[]⟩
noncomputable def q1339 (P : Params) : Obj := ⟨.type "tuple", none, .seq #[] 0, #[]⟩
noncomputable def q1340 (P : Params) : Obj := ⟨.none, none, .fields #[], #[]⟩
noncomputable def q1341 (P : Params) : Obj := ⟨.type "tuple", none, .seq #[.str "line" 1313] 0, #[]⟩
noncomputable def q1342 (P : Params) : Obj := ⟨.type "tuple", none, .seq #[] 0, #[]⟩
noncomputable def q1343 (P : Params) : Obj := fnO (nthS pB 37) fun n a b sc => ⟨.none, none, .func (⟨n, "_law_told", a, b, sc, 0, [], .none, .none, .none, .none, none, .none, .none, 0⟩), #[]⟩
noncomputable def q1344 (P : Params) : Obj := ⟨.type "code", none, .fields #[.str "_law_told" 1310, .str "_law_told" 1311, .str "/claim/cut.py" 1312, .int 784 0, .int 1 0, .int 0 0, .int 0 0, .int 3 0, .ref 803, .bool true, .int 318 0, .ref 804, .none, .ref 805, .ref 806, .ref 807, .int 1314 0, .int 784 0, .str "/claim/cut.py" 1315], #[]⟩
noncomputable def q1345 (P : Params) : Obj := fnO (nthS pB 37) fun n a b sc => ⟨.type "function", none, .func (⟨n, "_law_told", a, b, sc, 3, [], .none, .none, .none, .str "law_mj0255_01" 1265, none, .ref 808, .none, 0⟩), #[]⟩
noncomputable def q1346 (P : Params) : Obj := ⟨.type "tuple", none, .seq #[] 0, #[]⟩
noncomputable def q1347 (P : Params) : Obj := ⟨.none, none, .fields #[], #[]⟩
noncomputable def q1348 (P : Params) : Obj := fnO (nthS pB 38) fun n a b sc => ⟨.none, none, .func (⟨n, "law", a, b, sc, 0, [], .none, .none, .none, .none, none, .none, .none, 0⟩), #[]⟩
noncomputable def q1349 (P : Params) : Obj := ⟨.type "code", none, .fields #[.str "law" 1317, .str "law" 1318, .str "/claim/cut.py" 1319, .int 789 0, .int 1 0, .int 0 0, .int 0 0, .int 3 0, .ref 810, .bool true, .int 318 0, .ref 811, .none, .none, .none, .ref 812, .int 1320 0, .int 789 0, .str "/claim/cut.py" 1321], #[]⟩
noncomputable def q1350 (P : Params) : Obj := fnO (nthS pB 38) fun n a b sc => ⟨.type "function", none, .func (⟨n, "law", a, b, sc, 3, [], .none, .none, .none, .str "law_mj0255_01" 1265, none, .ref 813, .none, 0⟩), #[]⟩
noncomputable def h74 (P : Params) : Heap := ⟨⟨[q41 P, q42 P, q43 P, q44 P, q45 P, q46 P, q47 P, q48 P, q49 P, q50 P, q51 P, q52 P, q53 P, q54 P, q55 P, q56 P, q57 P, q58 P, q59 P, q60 P, q61 P, q62 P, q63 P, q64 P, q65 P, q66 P, q67 P, q68 P, q69 P, q70 P, q71 P, q72 P, q73 P, q74 P]⟩, ⟨[], [], [], 0, [], [], false, #[], [], 0, false, false, false, 0, [2000, 10, 10], false, 0, true, [], [], 0, false⟩⟩
noncomputable def h78 (P : Params) : Heap := ⟨⟨[q41 P, q42 P, q43 P, q44 P, q45 P, q46 P, q47 P, q48 P, q49 P, q50 P, q51 P, q52 P, q53 P, q54 P, q55 P, q56 P, q57 P, q58 P, q59 P, q60 P, q61 P, q62 P, q63 P, q64 P, q65 P, q66 P, q67 P, q68 P, q69 P, q70 P, q71 P, q72 P, q73 P, q74 P, q75 P, q76 P, q77 P, q78 P]⟩, ⟨[], [], [], 0, [], [], false, #[], [], 0, false, false, false, 0, [2000, 10, 10], false, 0, true, [], [], 0, false⟩⟩
noncomputable def hFin (P : Params) : Heap := ⟨⟨[q41 P, q42 P, q116 P, q1278 P, q45 P, q46 P, q47 P, q48 P, q49 P, q50 P, q51 P, q52 P, q53 P, q54 P, q55 P, q56 P, q57 P, q58 P, q59 P, q60 P, q61 P, q62 P, q63 P, q64 P, q65 P, q66 P, q67 P, q68 P, q69 P, q70 P, q71 P, q72 P, q73 P, q74 P, q75 P, q1279 P, q77 P, q78 P, q83 P, q84 P, q85 P, q86 P, q87 P, q88 P, q89 P, q90 P, q91 P, q92 P, q93 P, q94 P, q95 P, q96 P, q97 P, q98 P, q99 P, q100 P, q101 P, q102 P, q103 P, q104 P, q105 P, q106 P, q107 P, q108 P, q109 P, q110 P, q111 P, q112 P, q113 P, q114 P, q115 P, q119 P, q120 P, q121 P, q122 P, q123 P, q124 P, q125 P, q126 P, q127 P, q128 P, q129 P, q130 P, q131 P, q134 P, q135 P, q136 P, q137 P, q138 P, q139 P, q140 P, q141 P, q142 P, q143 P, q144 P, q145 P, q146 P, q147 P, q148 P, q149 P, q173 P, q151 P, q152 P, q153 P, q154 P, q155 P, q159 P, q160 P, q161 P, q162 P, q163 P, q164 P, q165 P, q166 P, q167 P, q188 P, q169 P, q170 P, q174 P, q175 P, q176 P, q177 P, q178 P, q179 P, q180 P, q181 P, q182 P, q591 P, q184 P, q185 P, q189 P, q190 P, q191 P, q192 P, q193 P, q194 P, q195 P, q196 P, q197 P, q198 P, q199 P, q200 P, q201 P, q202 P, q203 P, q204 P, q205 P, q206 P, q207 P, q208 P, q209 P, q210 P, q211 P, q212 P, q213 P, q214 P, q215 P, q216 P, q217 P, q218 P, q219 P, q220 P, q221 P, q222 P, q223 P, q224 P, q225 P, q226 P, q227 P, q228 P, q229 P, q230 P, q231 P, q232 P, q233 P, q234 P, q235 P, q236 P, q237 P, q238 P, q239 P, q240 P, q241 P, q242 P, q243 P, q244 P, q245 P, q246 P, q247 P, q248 P, q249 P, q250 P, q251 P, q252 P, q253 P, q254 P, q255 P, q256 P, q257 P, q258 P, q259 P, q260 P, q261 P, q262 P, q263 P, q264 P, q265 P, q266 P, q267 P, q268 P, q269 P, q270 P, q271 P, q272 P, q273 P, q274 P, q275 P, q276 P, q277 P, q278 P, q279 P, q280 P, q281 P, q282 P, q283 P, q284 P, q285 P, q286 P, q287 P, q288 P, q289 P, q290 P, q291 P, q292 P, q293 P, q294 P, q295 P, q296 P, q297 P, q298 P, q299 P, q300 P, q301 P, q302 P, q303 P, q304 P, q305 P, q306 P, q307 P, q308 P, q309 P, q310 P, q311 P, q312 P, q313 P, q314 P, q315 P, q316 P, q317 P, q318 P, q319 P, q320 P, q321 P, q322 P, q323 P, q324 P, q325 P, q326 P, q327 P, q328 P, q329 P, q330 P, q331 P, q332 P, q333 P, q334 P, q335 P, q336 P, q337 P, q338 P, q339 P, q340 P, q341 P, q342 P, q343 P, q344 P, q345 P, q346 P, q347 P, q348 P, q349 P, q350 P, q351 P, q352 P, q353 P, q354 P, q355 P, q356 P, q357 P, q358 P, q359 P, q360 P, q361 P, q362 P, q363 P, q364 P, q365 P, q366 P, q367 P, q368 P, q369 P, q370 P, q371 P, q372 P, q373 P, q374 P, q375 P, q376 P, q377 P, q378 P, q379 P, q380 P, q381 P, q382 P, q383 P, q384 P, q385 P, q386 P, q387 P, q388 P, q389 P, q390 P, q391 P, q392 P, q393 P, q394 P, q395 P, q396 P, q397 P, q398 P, q399 P, q400 P, q401 P, q402 P, q403 P, q404 P, q405 P, q406 P, q407 P, q408 P, q409 P, q410 P, q411 P, q412 P, q413 P, q414 P, q415 P, q416 P, q417 P, q418 P, q592 P, q593 P, q594 P, q595 P, q596 P, q597 P, q598 P, q599 P, q600 P, q601 P, q602 P, q603 P, q604 P, q605 P, q606 P, q607 P, q608 P, q609 P, q610 P, q611 P, q612 P, q613 P, q614 P, q615 P, q616 P, q617 P, q618 P, q619 P, q620 P, q621 P, q622 P, q623 P, q624 P, q625 P, q626 P, q627 P, q628 P, q629 P, q630 P, q631 P, q632 P, q633 P, q634 P, q635 P, q636 P, q637 P, q638 P, q639 P, q640 P, q641 P, q642 P, q643 P, q644 P, q645 P, q646 P, q647 P, q648 P, q649 P, q650 P, q651 P, q652 P, q653 P, q654 P, q655 P, q656 P, q657 P, q658 P, q659 P, q660 P, q661 P, q662 P, q663 P, q664 P, q665 P, q666 P, q667 P, q668 P, q669 P, q670 P, q671 P, q672 P, q673 P, q674 P, q675 P, q676 P, q677 P, q678 P, q679 P, q680 P, q681 P, q682 P, q683 P, q684 P, q685 P, q686 P, q687 P, q688 P, q689 P, q690 P, q691 P, q692 P, q693 P, q694 P, q695 P, q696 P, q697 P, q698 P, q699 P, q700 P, q701 P, q702 P, q703 P, q704 P, q705 P, q706 P, q707 P, q708 P, q709 P, q710 P, q711 P, q712 P, q713 P, q714 P, q715 P, q716 P, q717 P, q718 P, q719 P, q720 P, q721 P, q722 P, q723 P, q724 P, q725 P, q726 P, q727 P, q728 P, q729 P, q730 P, q731 P, q732 P, q733 P, q734 P, q735 P, q736 P, q737 P, q738 P, q739 P, q740 P, q741 P, q742 P, q743 P, q744 P, q745 P, q746 P, q747 P, q748 P, q749 P, q750 P, q751 P, q752 P, q753 P, q754 P, q755 P, q756 P, q757 P, q758 P, q759 P, q760 P, q761 P, q762 P, q763 P, q764 P, q765 P, q766 P, q767 P, q768 P, q769 P, q770 P, q771 P, q772 P, q773 P, q774 P, q775 P, q776 P, q777 P, q778 P, q779 P, q780 P, q781 P, q782 P, q783 P, q784 P, q785 P, q786 P, q787 P, q788 P, q789 P, q790 P, q791 P, q792 P, q793 P, q794 P, q795 P, q796 P, q797 P, q798 P, q799 P, q800 P, q801 P, q802 P, q803 P, q804 P, q805 P, q806 P, q807 P, q808 P, q809 P, q810 P, q811 P, q812 P, q813 P, q814 P, q815 P, q816 P, q817 P, q818 P, q819 P, q820 P, q821 P, q822 P, q823 P, q824 P, q825 P, q826 P, q827 P, q828 P, q829 P, q830 P, q831 P, q832 P, q833 P, q834 P, q835 P, q836 P, q837 P, q838 P, q1061 P, q1062 P, q1063 P, q1064 P, q1065 P, q1066 P, q1067 P, q1068 P, q1069 P, q1070 P, q1071 P, q1072 P, q1073 P, q1074 P, q1075 P, q1076 P, q1077 P, q1078 P, q1079 P, q1080 P, q1081 P, q1082 P, q1083 P, q1084 P, q1085 P, q1086 P, q1087 P, q1088 P, q1089 P, q1090 P, q1091 P, q1092 P, q1093 P, q1094 P, q1095 P, q1096 P, q1097 P, q1098 P, q1099 P, q1100 P, q1101 P, q1102 P, q1105 P, q1106 P, q1107 P, q1108 P, q1109 P, q1110 P, q1111 P, q1112 P, q1113 P, q1114 P, q1115 P, q1116 P, q1117 P, q1118 P, q1119 P, q1120 P, q1121 P, q1122 P, q1123 P, q1124 P, q1125 P, q1126 P, q1127 P, q1128 P, q1129 P, q1130 P, q1131 P, q1132 P, q1133 P, q1134 P, q1135 P, q1136 P, q1137 P, q1138 P, q1139 P, q1140 P, q1141 P, q1142 P, q1143 P, q1144 P, q1145 P, q1146 P, q1147 P, q1148 P, q1149 P, q1150 P, q1151 P, q1152 P, q1153 P, q1154 P, q1155 P, q1156 P, q1157 P, q1158 P, q1159 P, q1160 P, q1161 P, q1162 P, q1163 P, q1164 P, q1165 P, q1166 P, q1167 P, q1168 P, q1169 P, q1170 P, q1171 P, q1172 P, q1173 P, q1174 P, q1175 P, q1176 P, q1177 P, q1178 P, q1179 P, q1180 P, q1181 P, q1182 P, q1183 P, q1184 P, q1185 P, q1186 P, q1187 P, q1188 P, q1189 P, q1190 P, q1191 P, q1192 P, q1193 P, q1194 P, q1195 P, q1196 P, q1197 P, q1198 P, q1199 P, q1280 P, q1281 P, q1282 P, q1283 P, q1284 P, q1285 P, q1286 P, q1287 P, q1288 P, q1289 P, q1290 P, q1291 P, q1292 P, q1293 P, q1294 P, q1295 P, q1296 P, q1297 P, q1298 P, q1299 P, q1300 P, q1301 P, q1302 P, q1303 P, q1304 P, q1305 P, q1306 P, q1307 P, q1308 P, q1309 P, q1310 P, q1311 P, q1312 P, q1313 P, q1314 P, q1315 P, q1316 P, q1317 P, q1318 P, q1319 P, q1320 P, q1321 P, q1322 P, q1323 P, q1324 P, q1325 P, q1326 P, q1327 P, q1328 P, q1329 P, q1330 P, q1331 P, q1332 P, q1333 P, q1334 P, q1335 P, q1336 P, q1337 P, q1338 P, q1339 P, q1340 P, q1341 P, q1342 P, q1343 P, q1344 P, q1345 P, q1346 P, q1347 P, q1348 P, q1349 P, q1350 P]⟩, ⟨[], [], [], 0, [], [], false, #[], [], 0, false, false, false, 0, [2000, 10, 10], false, 0, true, [], [], 0, false⟩⟩
noncomputable def t79 (P : Params) : BT := .node (q41 P) (.node (q42 P) (.node (q44 P) (.node (q48 P) (.node (q56 P) (.node (q72 P) .nil .nil) .nil) (.node (q64 P) .nil .nil)) (.node (q52 P) (.node (q60 P) (.node (q76 P) .nil .nil) .nil) (.node (q68 P) .nil .nil))) (.node (q46 P) (.node (q50 P) (.node (q58 P) (.node (q74 P) .nil .nil) .nil) (.node (q66 P) .nil .nil)) (.node (q54 P) (.node (q62 P) (.node (q78 P) .nil .nil) .nil) (.node (q70 P) .nil .nil)))) (.node (q43 P) (.node (q45 P) (.node (q49 P) (.node (q57 P) (.node (q73 P) .nil .nil) .nil) (.node (q65 P) .nil .nil)) (.node (q53 P) (.node (q61 P) (.node (q77 P) .nil .nil) .nil) (.node (q69 P) .nil .nil))) (.node (q47 P) (.node (q51 P) (.node (q59 P) (.node (q75 P) .nil .nil) .nil) (.node (q67 P) .nil .nil)) (.node (q55 P) (.node (q63 P) .nil .nil) (.node (q71 P) .nil .nil))))
noncomputable def t185 (P : Params) : BT := .node (q41 P) (.node (q42 P) (.node (q171 P) (.node (q48 P) (.node (q56 P) (.node (q72 P) (.node (q108 P) (.node (q183 P) .nil .nil) .nil) (.node (q145 P) .nil .nil)) (.node (q92 P) (.node (q127 P) .nil .nil) (.node (q164 P) .nil .nil))) (.node (q64 P) (.node (q84 P) (.node (q119 P) .nil .nil) (.node (q153 P) .nil .nil)) (.node (q100 P) (.node (q137 P) .nil .nil) (.node (q175 P) .nil .nil)))) (.node (q52 P) (.node (q60 P) (.node (q172 P) (.node (q112 P) .nil .nil) (.node (q149 P) .nil .nil)) (.node (q96 P) (.node (q131 P) .nil .nil) (.node (q168 P) .nil .nil))) (.node (q68 P) (.node (q88 P) (.node (q123 P) .nil .nil) (.node (q160 P) .nil .nil)) (.node (q104 P) (.node (q141 P) .nil .nil) (.node (q179 P) .nil .nil))))) (.node (q46 P) (.node (q50 P) (.node (q58 P) (.node (q74 P) (.node (q110 P) (.node (q185 P) .nil .nil) .nil) (.node (q147 P) .nil .nil)) (.node (q94 P) (.node (q129 P) .nil .nil) (.node (q166 P) .nil .nil))) (.node (q66 P) (.node (q86 P) (.node (q121 P) .nil .nil) (.node (q155 P) .nil .nil)) (.node (q102 P) (.node (q139 P) .nil .nil) (.node (q177 P) .nil .nil)))) (.node (q54 P) (.node (q62 P) (.node (q78 P) (.node (q114 P) .nil .nil) (.node (q151 P) .nil .nil)) (.node (q98 P) (.node (q135 P) .nil .nil) (.node (q170 P) .nil .nil))) (.node (q70 P) (.node (q90 P) (.node (q125 P) .nil .nil) (.node (q162 P) .nil .nil)) (.node (q106 P) (.node (q143 P) .nil .nil) (.node (q181 P) .nil .nil)))))) (.node (q116 P) (.node (q45 P) (.node (q49 P) (.node (q57 P) (.node (q73 P) (.node (q109 P) (.node (q184 P) .nil .nil) .nil) (.node (q146 P) .nil .nil)) (.node (q93 P) (.node (q128 P) .nil .nil) (.node (q165 P) .nil .nil))) (.node (q65 P) (.node (q85 P) (.node (q120 P) .nil .nil) (.node (q154 P) .nil .nil)) (.node (q101 P) (.node (q138 P) .nil .nil) (.node (q176 P) .nil .nil)))) (.node (q53 P) (.node (q61 P) (.node (q77 P) (.node (q113 P) .nil .nil) (.node (q173 P) .nil .nil)) (.node (q97 P) (.node (q134 P) .nil .nil) (.node (q169 P) .nil .nil))) (.node (q69 P) (.node (q89 P) (.node (q124 P) .nil .nil) (.node (q161 P) .nil .nil)) (.node (q105 P) (.node (q142 P) .nil .nil) (.node (q180 P) .nil .nil))))) (.node (q47 P) (.node (q51 P) (.node (q59 P) (.node (q75 P) (.node (q111 P) .nil .nil) (.node (q148 P) .nil .nil)) (.node (q95 P) (.node (q130 P) .nil .nil) (.node (q167 P) .nil .nil))) (.node (q67 P) (.node (q87 P) (.node (q122 P) .nil .nil) (.node (q159 P) .nil .nil)) (.node (q103 P) (.node (q140 P) .nil .nil) (.node (q178 P) .nil .nil)))) (.node (q55 P) (.node (q63 P) (.node (q83 P) (.node (q115 P) .nil .nil) (.node (q152 P) .nil .nil)) (.node (q99 P) (.node (q136 P) .nil .nil) (.node (q174 P) .nil .nil))) (.node (q71 P) (.node (q91 P) (.node (q126 P) .nil .nil) (.node (q163 P) .nil .nil)) (.node (q107 P) (.node (q144 P) .nil .nil) (.node (q182 P) .nil .nil))))))
noncomputable def t418 (P : Params) : BT := .node (q41 P) (.node (q42 P) (.node (q186 P) (.node (q48 P) (.node (q56 P) (.node (q72 P) (.node (q108 P) (.node (q183 P) (.node (q314 P) .nil .nil) .nil) (.node (q250 P) (.node (q378 P) .nil .nil) .nil)) (.node (q145 P) (.node (q218 P) (.node (q346 P) .nil .nil) .nil) (.node (q282 P) (.node (q410 P) .nil .nil) .nil))) (.node (q92 P) (.node (q127 P) (.node (q202 P) (.node (q330 P) .nil .nil) .nil) (.node (q266 P) (.node (q394 P) .nil .nil) .nil)) (.node (q164 P) (.node (q234 P) (.node (q362 P) .nil .nil) .nil) (.node (q298 P) .nil .nil)))) (.node (q64 P) (.node (q84 P) (.node (q119 P) (.node (q194 P) (.node (q322 P) .nil .nil) .nil) (.node (q258 P) (.node (q386 P) .nil .nil) .nil)) (.node (q153 P) (.node (q226 P) (.node (q354 P) .nil .nil) .nil) (.node (q290 P) (.node (q418 P) .nil .nil) .nil))) (.node (q100 P) (.node (q137 P) (.node (q210 P) (.node (q338 P) .nil .nil) .nil) (.node (q274 P) (.node (q402 P) .nil .nil) .nil)) (.node (q175 P) (.node (q242 P) (.node (q370 P) .nil .nil) .nil) (.node (q306 P) .nil .nil))))) (.node (q52 P) (.node (q60 P) (.node (q187 P) (.node (q112 P) (.node (q190 P) (.node (q318 P) .nil .nil) .nil) (.node (q254 P) (.node (q382 P) .nil .nil) .nil)) (.node (q149 P) (.node (q222 P) (.node (q350 P) .nil .nil) .nil) (.node (q286 P) (.node (q414 P) .nil .nil) .nil))) (.node (q96 P) (.node (q131 P) (.node (q206 P) (.node (q334 P) .nil .nil) .nil) (.node (q270 P) (.node (q398 P) .nil .nil) .nil)) (.node (q188 P) (.node (q238 P) (.node (q366 P) .nil .nil) .nil) (.node (q302 P) .nil .nil)))) (.node (q68 P) (.node (q88 P) (.node (q123 P) (.node (q198 P) (.node (q326 P) .nil .nil) .nil) (.node (q262 P) (.node (q390 P) .nil .nil) .nil)) (.node (q160 P) (.node (q230 P) (.node (q358 P) .nil .nil) .nil) (.node (q294 P) .nil .nil))) (.node (q104 P) (.node (q141 P) (.node (q214 P) (.node (q342 P) .nil .nil) .nil) (.node (q278 P) (.node (q406 P) .nil .nil) .nil)) (.node (q179 P) (.node (q246 P) (.node (q374 P) .nil .nil) .nil) (.node (q310 P) .nil .nil)))))) (.node (q46 P) (.node (q50 P) (.node (q58 P) (.node (q74 P) (.node (q110 P) (.node (q185 P) (.node (q316 P) .nil .nil) .nil) (.node (q252 P) (.node (q380 P) .nil .nil) .nil)) (.node (q147 P) (.node (q220 P) (.node (q348 P) .nil .nil) .nil) (.node (q284 P) (.node (q412 P) .nil .nil) .nil))) (.node (q94 P) (.node (q129 P) (.node (q204 P) (.node (q332 P) .nil .nil) .nil) (.node (q268 P) (.node (q396 P) .nil .nil) .nil)) (.node (q166 P) (.node (q236 P) (.node (q364 P) .nil .nil) .nil) (.node (q300 P) .nil .nil)))) (.node (q66 P) (.node (q86 P) (.node (q121 P) (.node (q196 P) (.node (q324 P) .nil .nil) .nil) (.node (q260 P) (.node (q388 P) .nil .nil) .nil)) (.node (q155 P) (.node (q228 P) (.node (q356 P) .nil .nil) .nil) (.node (q292 P) .nil .nil))) (.node (q102 P) (.node (q139 P) (.node (q212 P) (.node (q340 P) .nil .nil) .nil) (.node (q276 P) (.node (q404 P) .nil .nil) .nil)) (.node (q177 P) (.node (q244 P) (.node (q372 P) .nil .nil) .nil) (.node (q308 P) .nil .nil))))) (.node (q54 P) (.node (q62 P) (.node (q78 P) (.node (q114 P) (.node (q192 P) (.node (q320 P) .nil .nil) .nil) (.node (q256 P) (.node (q384 P) .nil .nil) .nil)) (.node (q151 P) (.node (q224 P) (.node (q352 P) .nil .nil) .nil) (.node (q288 P) (.node (q416 P) .nil .nil) .nil))) (.node (q98 P) (.node (q135 P) (.node (q208 P) (.node (q336 P) .nil .nil) .nil) (.node (q272 P) (.node (q400 P) .nil .nil) .nil)) (.node (q170 P) (.node (q240 P) (.node (q368 P) .nil .nil) .nil) (.node (q304 P) .nil .nil)))) (.node (q70 P) (.node (q90 P) (.node (q125 P) (.node (q200 P) (.node (q328 P) .nil .nil) .nil) (.node (q264 P) (.node (q392 P) .nil .nil) .nil)) (.node (q162 P) (.node (q232 P) (.node (q360 P) .nil .nil) .nil) (.node (q296 P) .nil .nil))) (.node (q106 P) (.node (q143 P) (.node (q216 P) (.node (q344 P) .nil .nil) .nil) (.node (q280 P) (.node (q408 P) .nil .nil) .nil)) (.node (q181 P) (.node (q248 P) (.node (q376 P) .nil .nil) .nil) (.node (q312 P) .nil .nil))))))) (.node (q116 P) (.node (q45 P) (.node (q49 P) (.node (q57 P) (.node (q73 P) (.node (q109 P) (.node (q184 P) (.node (q315 P) .nil .nil) .nil) (.node (q251 P) (.node (q379 P) .nil .nil) .nil)) (.node (q146 P) (.node (q219 P) (.node (q347 P) .nil .nil) .nil) (.node (q283 P) (.node (q411 P) .nil .nil) .nil))) (.node (q93 P) (.node (q128 P) (.node (q203 P) (.node (q331 P) .nil .nil) .nil) (.node (q267 P) (.node (q395 P) .nil .nil) .nil)) (.node (q165 P) (.node (q235 P) (.node (q363 P) .nil .nil) .nil) (.node (q299 P) .nil .nil)))) (.node (q65 P) (.node (q85 P) (.node (q120 P) (.node (q195 P) (.node (q323 P) .nil .nil) .nil) (.node (q259 P) (.node (q387 P) .nil .nil) .nil)) (.node (q154 P) (.node (q227 P) (.node (q355 P) .nil .nil) .nil) (.node (q291 P) .nil .nil))) (.node (q101 P) (.node (q138 P) (.node (q211 P) (.node (q339 P) .nil .nil) .nil) (.node (q275 P) (.node (q403 P) .nil .nil) .nil)) (.node (q176 P) (.node (q243 P) (.node (q371 P) .nil .nil) .nil) (.node (q307 P) .nil .nil))))) (.node (q53 P) (.node (q61 P) (.node (q77 P) (.node (q113 P) (.node (q191 P) (.node (q319 P) .nil .nil) .nil) (.node (q255 P) (.node (q383 P) .nil .nil) .nil)) (.node (q173 P) (.node (q223 P) (.node (q351 P) .nil .nil) .nil) (.node (q287 P) (.node (q415 P) .nil .nil) .nil))) (.node (q97 P) (.node (q134 P) (.node (q207 P) (.node (q335 P) .nil .nil) .nil) (.node (q271 P) (.node (q399 P) .nil .nil) .nil)) (.node (q169 P) (.node (q239 P) (.node (q367 P) .nil .nil) .nil) (.node (q303 P) .nil .nil)))) (.node (q69 P) (.node (q89 P) (.node (q124 P) (.node (q199 P) (.node (q327 P) .nil .nil) .nil) (.node (q263 P) (.node (q391 P) .nil .nil) .nil)) (.node (q161 P) (.node (q231 P) (.node (q359 P) .nil .nil) .nil) (.node (q295 P) .nil .nil))) (.node (q105 P) (.node (q142 P) (.node (q215 P) (.node (q343 P) .nil .nil) .nil) (.node (q279 P) (.node (q407 P) .nil .nil) .nil)) (.node (q180 P) (.node (q247 P) (.node (q375 P) .nil .nil) .nil) (.node (q311 P) .nil .nil)))))) (.node (q47 P) (.node (q51 P) (.node (q59 P) (.node (q75 P) (.node (q111 P) (.node (q189 P) (.node (q317 P) .nil .nil) .nil) (.node (q253 P) (.node (q381 P) .nil .nil) .nil)) (.node (q148 P) (.node (q221 P) (.node (q349 P) .nil .nil) .nil) (.node (q285 P) (.node (q413 P) .nil .nil) .nil))) (.node (q95 P) (.node (q130 P) (.node (q205 P) (.node (q333 P) .nil .nil) .nil) (.node (q269 P) (.node (q397 P) .nil .nil) .nil)) (.node (q167 P) (.node (q237 P) (.node (q365 P) .nil .nil) .nil) (.node (q301 P) .nil .nil)))) (.node (q67 P) (.node (q87 P) (.node (q122 P) (.node (q197 P) (.node (q325 P) .nil .nil) .nil) (.node (q261 P) (.node (q389 P) .nil .nil) .nil)) (.node (q159 P) (.node (q229 P) (.node (q357 P) .nil .nil) .nil) (.node (q293 P) .nil .nil))) (.node (q103 P) (.node (q140 P) (.node (q213 P) (.node (q341 P) .nil .nil) .nil) (.node (q277 P) (.node (q405 P) .nil .nil) .nil)) (.node (q178 P) (.node (q245 P) (.node (q373 P) .nil .nil) .nil) (.node (q309 P) .nil .nil))))) (.node (q55 P) (.node (q63 P) (.node (q83 P) (.node (q115 P) (.node (q193 P) (.node (q321 P) .nil .nil) .nil) (.node (q257 P) (.node (q385 P) .nil .nil) .nil)) (.node (q152 P) (.node (q225 P) (.node (q353 P) .nil .nil) .nil) (.node (q289 P) (.node (q417 P) .nil .nil) .nil))) (.node (q99 P) (.node (q136 P) (.node (q209 P) (.node (q337 P) .nil .nil) .nil) (.node (q273 P) (.node (q401 P) .nil .nil) .nil)) (.node (q174 P) (.node (q241 P) (.node (q369 P) .nil .nil) .nil) (.node (q305 P) .nil .nil)))) (.node (q71 P) (.node (q91 P) (.node (q126 P) (.node (q201 P) (.node (q329 P) .nil .nil) .nil) (.node (q265 P) (.node (q393 P) .nil .nil) .nil)) (.node (q163 P) (.node (q233 P) (.node (q361 P) .nil .nil) .nil) (.node (q297 P) .nil .nil))) (.node (q107 P) (.node (q144 P) (.node (q217 P) (.node (q345 P) .nil .nil) .nil) (.node (q281 P) (.node (q409 P) .nil .nil) .nil)) (.node (q182 P) (.node (q249 P) (.node (q377 P) .nil .nil) .nil) (.node (q313 P) .nil .nil)))))))
noncomputable def t838 (P : Params) : BT := .node (q41 P) (.node (q42 P) (.node (q589 P) (.node (q48 P) (.node (q56 P) (.node (q72 P) (.node (q108 P) (.node (q591 P) (.node (q314 P) (.node (q743 P) .nil .nil) .nil) (.node (q615 P) .nil .nil)) (.node (q250 P) (.node (q378 P) (.node (q807 P) .nil .nil) .nil) (.node (q679 P) .nil .nil))) (.node (q145 P) (.node (q218 P) (.node (q346 P) (.node (q775 P) .nil .nil) .nil) (.node (q647 P) .nil .nil)) (.node (q282 P) (.node (q410 P) .nil .nil) (.node (q711 P) .nil .nil)))) (.node (q92 P) (.node (q127 P) (.node (q202 P) (.node (q330 P) (.node (q759 P) .nil .nil) .nil) (.node (q631 P) .nil .nil)) (.node (q266 P) (.node (q394 P) (.node (q823 P) .nil .nil) .nil) (.node (q695 P) .nil .nil))) (.node (q164 P) (.node (q234 P) (.node (q362 P) (.node (q791 P) .nil .nil) .nil) (.node (q663 P) .nil .nil)) (.node (q298 P) (.node (q599 P) .nil .nil) (.node (q727 P) .nil .nil))))) (.node (q64 P) (.node (q84 P) (.node (q119 P) (.node (q194 P) (.node (q322 P) (.node (q751 P) .nil .nil) .nil) (.node (q623 P) .nil .nil)) (.node (q258 P) (.node (q386 P) (.node (q815 P) .nil .nil) .nil) (.node (q687 P) .nil .nil))) (.node (q153 P) (.node (q226 P) (.node (q354 P) (.node (q783 P) .nil .nil) .nil) (.node (q655 P) .nil .nil)) (.node (q290 P) (.node (q418 P) .nil .nil) (.node (q719 P) .nil .nil)))) (.node (q100 P) (.node (q137 P) (.node (q210 P) (.node (q338 P) (.node (q767 P) .nil .nil) .nil) (.node (q639 P) .nil .nil)) (.node (q274 P) (.node (q402 P) (.node (q831 P) .nil .nil) .nil) (.node (q703 P) .nil .nil))) (.node (q175 P) (.node (q242 P) (.node (q370 P) (.node (q799 P) .nil .nil) .nil) (.node (q671 P) .nil .nil)) (.node (q306 P) (.node (q607 P) .nil .nil) (.node (q735 P) .nil .nil)))))) (.node (q52 P) (.node (q60 P) (.node (q590 P) (.node (q112 P) (.node (q190 P) (.node (q318 P) (.node (q747 P) .nil .nil) .nil) (.node (q619 P) .nil .nil)) (.node (q254 P) (.node (q382 P) (.node (q811 P) .nil .nil) .nil) (.node (q683 P) .nil .nil))) (.node (q149 P) (.node (q222 P) (.node (q350 P) (.node (q779 P) .nil .nil) .nil) (.node (q651 P) .nil .nil)) (.node (q286 P) (.node (q414 P) .nil .nil) (.node (q715 P) .nil .nil)))) (.node (q96 P) (.node (q131 P) (.node (q206 P) (.node (q334 P) (.node (q763 P) .nil .nil) .nil) (.node (q635 P) .nil .nil)) (.node (q270 P) (.node (q398 P) (.node (q827 P) .nil .nil) .nil) (.node (q699 P) .nil .nil))) (.node (q188 P) (.node (q238 P) (.node (q366 P) (.node (q795 P) .nil .nil) .nil) (.node (q667 P) .nil .nil)) (.node (q302 P) (.node (q603 P) .nil .nil) (.node (q731 P) .nil .nil))))) (.node (q68 P) (.node (q88 P) (.node (q123 P) (.node (q198 P) (.node (q326 P) (.node (q755 P) .nil .nil) .nil) (.node (q627 P) .nil .nil)) (.node (q262 P) (.node (q390 P) (.node (q819 P) .nil .nil) .nil) (.node (q691 P) .nil .nil))) (.node (q160 P) (.node (q230 P) (.node (q358 P) (.node (q787 P) .nil .nil) .nil) (.node (q659 P) .nil .nil)) (.node (q294 P) (.node (q595 P) .nil .nil) (.node (q723 P) .nil .nil)))) (.node (q104 P) (.node (q141 P) (.node (q214 P) (.node (q342 P) (.node (q771 P) .nil .nil) .nil) (.node (q643 P) .nil .nil)) (.node (q278 P) (.node (q406 P) (.node (q835 P) .nil .nil) .nil) (.node (q707 P) .nil .nil))) (.node (q179 P) (.node (q246 P) (.node (q374 P) (.node (q803 P) .nil .nil) .nil) (.node (q675 P) .nil .nil)) (.node (q310 P) (.node (q611 P) .nil .nil) (.node (q739 P) .nil .nil))))))) (.node (q46 P) (.node (q50 P) (.node (q58 P) (.node (q74 P) (.node (q110 P) (.node (q185 P) (.node (q316 P) (.node (q745 P) .nil .nil) .nil) (.node (q617 P) .nil .nil)) (.node (q252 P) (.node (q380 P) (.node (q809 P) .nil .nil) .nil) (.node (q681 P) .nil .nil))) (.node (q147 P) (.node (q220 P) (.node (q348 P) (.node (q777 P) .nil .nil) .nil) (.node (q649 P) .nil .nil)) (.node (q284 P) (.node (q412 P) .nil .nil) (.node (q713 P) .nil .nil)))) (.node (q94 P) (.node (q129 P) (.node (q204 P) (.node (q332 P) (.node (q761 P) .nil .nil) .nil) (.node (q633 P) .nil .nil)) (.node (q268 P) (.node (q396 P) (.node (q825 P) .nil .nil) .nil) (.node (q697 P) .nil .nil))) (.node (q166 P) (.node (q236 P) (.node (q364 P) (.node (q793 P) .nil .nil) .nil) (.node (q665 P) .nil .nil)) (.node (q300 P) (.node (q601 P) .nil .nil) (.node (q729 P) .nil .nil))))) (.node (q66 P) (.node (q86 P) (.node (q121 P) (.node (q196 P) (.node (q324 P) (.node (q753 P) .nil .nil) .nil) (.node (q625 P) .nil .nil)) (.node (q260 P) (.node (q388 P) (.node (q817 P) .nil .nil) .nil) (.node (q689 P) .nil .nil))) (.node (q155 P) (.node (q228 P) (.node (q356 P) (.node (q785 P) .nil .nil) .nil) (.node (q657 P) .nil .nil)) (.node (q292 P) (.node (q593 P) .nil .nil) (.node (q721 P) .nil .nil)))) (.node (q102 P) (.node (q139 P) (.node (q212 P) (.node (q340 P) (.node (q769 P) .nil .nil) .nil) (.node (q641 P) .nil .nil)) (.node (q276 P) (.node (q404 P) (.node (q833 P) .nil .nil) .nil) (.node (q705 P) .nil .nil))) (.node (q177 P) (.node (q244 P) (.node (q372 P) (.node (q801 P) .nil .nil) .nil) (.node (q673 P) .nil .nil)) (.node (q308 P) (.node (q609 P) .nil .nil) (.node (q737 P) .nil .nil)))))) (.node (q54 P) (.node (q62 P) (.node (q78 P) (.node (q114 P) (.node (q192 P) (.node (q320 P) (.node (q749 P) .nil .nil) .nil) (.node (q621 P) .nil .nil)) (.node (q256 P) (.node (q384 P) (.node (q813 P) .nil .nil) .nil) (.node (q685 P) .nil .nil))) (.node (q151 P) (.node (q224 P) (.node (q352 P) (.node (q781 P) .nil .nil) .nil) (.node (q653 P) .nil .nil)) (.node (q288 P) (.node (q416 P) .nil .nil) (.node (q717 P) .nil .nil)))) (.node (q98 P) (.node (q135 P) (.node (q208 P) (.node (q336 P) (.node (q765 P) .nil .nil) .nil) (.node (q637 P) .nil .nil)) (.node (q272 P) (.node (q400 P) (.node (q829 P) .nil .nil) .nil) (.node (q701 P) .nil .nil))) (.node (q170 P) (.node (q240 P) (.node (q368 P) (.node (q797 P) .nil .nil) .nil) (.node (q669 P) .nil .nil)) (.node (q304 P) (.node (q605 P) .nil .nil) (.node (q733 P) .nil .nil))))) (.node (q70 P) (.node (q90 P) (.node (q125 P) (.node (q200 P) (.node (q328 P) (.node (q757 P) .nil .nil) .nil) (.node (q629 P) .nil .nil)) (.node (q264 P) (.node (q392 P) (.node (q821 P) .nil .nil) .nil) (.node (q693 P) .nil .nil))) (.node (q162 P) (.node (q232 P) (.node (q360 P) (.node (q789 P) .nil .nil) .nil) (.node (q661 P) .nil .nil)) (.node (q296 P) (.node (q597 P) .nil .nil) (.node (q725 P) .nil .nil)))) (.node (q106 P) (.node (q143 P) (.node (q216 P) (.node (q344 P) (.node (q773 P) .nil .nil) .nil) (.node (q645 P) .nil .nil)) (.node (q280 P) (.node (q408 P) (.node (q837 P) .nil .nil) .nil) (.node (q709 P) .nil .nil))) (.node (q181 P) (.node (q248 P) (.node (q376 P) (.node (q805 P) .nil .nil) .nil) (.node (q677 P) .nil .nil)) (.node (q312 P) (.node (q613 P) .nil .nil) (.node (q741 P) .nil .nil)))))))) (.node (q116 P) (.node (q45 P) (.node (q49 P) (.node (q57 P) (.node (q73 P) (.node (q109 P) (.node (q184 P) (.node (q315 P) (.node (q744 P) .nil .nil) .nil) (.node (q616 P) .nil .nil)) (.node (q251 P) (.node (q379 P) (.node (q808 P) .nil .nil) .nil) (.node (q680 P) .nil .nil))) (.node (q146 P) (.node (q219 P) (.node (q347 P) (.node (q776 P) .nil .nil) .nil) (.node (q648 P) .nil .nil)) (.node (q283 P) (.node (q411 P) .nil .nil) (.node (q712 P) .nil .nil)))) (.node (q93 P) (.node (q128 P) (.node (q203 P) (.node (q331 P) (.node (q760 P) .nil .nil) .nil) (.node (q632 P) .nil .nil)) (.node (q267 P) (.node (q395 P) (.node (q824 P) .nil .nil) .nil) (.node (q696 P) .nil .nil))) (.node (q165 P) (.node (q235 P) (.node (q363 P) (.node (q792 P) .nil .nil) .nil) (.node (q664 P) .nil .nil)) (.node (q299 P) (.node (q600 P) .nil .nil) (.node (q728 P) .nil .nil))))) (.node (q65 P) (.node (q85 P) (.node (q120 P) (.node (q195 P) (.node (q323 P) (.node (q752 P) .nil .nil) .nil) (.node (q624 P) .nil .nil)) (.node (q259 P) (.node (q387 P) (.node (q816 P) .nil .nil) .nil) (.node (q688 P) .nil .nil))) (.node (q154 P) (.node (q227 P) (.node (q355 P) (.node (q784 P) .nil .nil) .nil) (.node (q656 P) .nil .nil)) (.node (q291 P) (.node (q592 P) .nil .nil) (.node (q720 P) .nil .nil)))) (.node (q101 P) (.node (q138 P) (.node (q211 P) (.node (q339 P) (.node (q768 P) .nil .nil) .nil) (.node (q640 P) .nil .nil)) (.node (q275 P) (.node (q403 P) (.node (q832 P) .nil .nil) .nil) (.node (q704 P) .nil .nil))) (.node (q176 P) (.node (q243 P) (.node (q371 P) (.node (q800 P) .nil .nil) .nil) (.node (q672 P) .nil .nil)) (.node (q307 P) (.node (q608 P) .nil .nil) (.node (q736 P) .nil .nil)))))) (.node (q53 P) (.node (q61 P) (.node (q77 P) (.node (q113 P) (.node (q191 P) (.node (q319 P) (.node (q748 P) .nil .nil) .nil) (.node (q620 P) .nil .nil)) (.node (q255 P) (.node (q383 P) (.node (q812 P) .nil .nil) .nil) (.node (q684 P) .nil .nil))) (.node (q173 P) (.node (q223 P) (.node (q351 P) (.node (q780 P) .nil .nil) .nil) (.node (q652 P) .nil .nil)) (.node (q287 P) (.node (q415 P) .nil .nil) (.node (q716 P) .nil .nil)))) (.node (q97 P) (.node (q134 P) (.node (q207 P) (.node (q335 P) (.node (q764 P) .nil .nil) .nil) (.node (q636 P) .nil .nil)) (.node (q271 P) (.node (q399 P) (.node (q828 P) .nil .nil) .nil) (.node (q700 P) .nil .nil))) (.node (q169 P) (.node (q239 P) (.node (q367 P) (.node (q796 P) .nil .nil) .nil) (.node (q668 P) .nil .nil)) (.node (q303 P) (.node (q604 P) .nil .nil) (.node (q732 P) .nil .nil))))) (.node (q69 P) (.node (q89 P) (.node (q124 P) (.node (q199 P) (.node (q327 P) (.node (q756 P) .nil .nil) .nil) (.node (q628 P) .nil .nil)) (.node (q263 P) (.node (q391 P) (.node (q820 P) .nil .nil) .nil) (.node (q692 P) .nil .nil))) (.node (q161 P) (.node (q231 P) (.node (q359 P) (.node (q788 P) .nil .nil) .nil) (.node (q660 P) .nil .nil)) (.node (q295 P) (.node (q596 P) .nil .nil) (.node (q724 P) .nil .nil)))) (.node (q105 P) (.node (q142 P) (.node (q215 P) (.node (q343 P) (.node (q772 P) .nil .nil) .nil) (.node (q644 P) .nil .nil)) (.node (q279 P) (.node (q407 P) (.node (q836 P) .nil .nil) .nil) (.node (q708 P) .nil .nil))) (.node (q180 P) (.node (q247 P) (.node (q375 P) (.node (q804 P) .nil .nil) .nil) (.node (q676 P) .nil .nil)) (.node (q311 P) (.node (q612 P) .nil .nil) (.node (q740 P) .nil .nil))))))) (.node (q47 P) (.node (q51 P) (.node (q59 P) (.node (q75 P) (.node (q111 P) (.node (q189 P) (.node (q317 P) (.node (q746 P) .nil .nil) .nil) (.node (q618 P) .nil .nil)) (.node (q253 P) (.node (q381 P) (.node (q810 P) .nil .nil) .nil) (.node (q682 P) .nil .nil))) (.node (q148 P) (.node (q221 P) (.node (q349 P) (.node (q778 P) .nil .nil) .nil) (.node (q650 P) .nil .nil)) (.node (q285 P) (.node (q413 P) .nil .nil) (.node (q714 P) .nil .nil)))) (.node (q95 P) (.node (q130 P) (.node (q205 P) (.node (q333 P) (.node (q762 P) .nil .nil) .nil) (.node (q634 P) .nil .nil)) (.node (q269 P) (.node (q397 P) (.node (q826 P) .nil .nil) .nil) (.node (q698 P) .nil .nil))) (.node (q167 P) (.node (q237 P) (.node (q365 P) (.node (q794 P) .nil .nil) .nil) (.node (q666 P) .nil .nil)) (.node (q301 P) (.node (q602 P) .nil .nil) (.node (q730 P) .nil .nil))))) (.node (q67 P) (.node (q87 P) (.node (q122 P) (.node (q197 P) (.node (q325 P) (.node (q754 P) .nil .nil) .nil) (.node (q626 P) .nil .nil)) (.node (q261 P) (.node (q389 P) (.node (q818 P) .nil .nil) .nil) (.node (q690 P) .nil .nil))) (.node (q159 P) (.node (q229 P) (.node (q357 P) (.node (q786 P) .nil .nil) .nil) (.node (q658 P) .nil .nil)) (.node (q293 P) (.node (q594 P) .nil .nil) (.node (q722 P) .nil .nil)))) (.node (q103 P) (.node (q140 P) (.node (q213 P) (.node (q341 P) (.node (q770 P) .nil .nil) .nil) (.node (q642 P) .nil .nil)) (.node (q277 P) (.node (q405 P) (.node (q834 P) .nil .nil) .nil) (.node (q706 P) .nil .nil))) (.node (q178 P) (.node (q245 P) (.node (q373 P) (.node (q802 P) .nil .nil) .nil) (.node (q674 P) .nil .nil)) (.node (q309 P) (.node (q610 P) .nil .nil) (.node (q738 P) .nil .nil)))))) (.node (q55 P) (.node (q63 P) (.node (q83 P) (.node (q115 P) (.node (q193 P) (.node (q321 P) (.node (q750 P) .nil .nil) .nil) (.node (q622 P) .nil .nil)) (.node (q257 P) (.node (q385 P) (.node (q814 P) .nil .nil) .nil) (.node (q686 P) .nil .nil))) (.node (q152 P) (.node (q225 P) (.node (q353 P) (.node (q782 P) .nil .nil) .nil) (.node (q654 P) .nil .nil)) (.node (q289 P) (.node (q417 P) .nil .nil) (.node (q718 P) .nil .nil)))) (.node (q99 P) (.node (q136 P) (.node (q209 P) (.node (q337 P) (.node (q766 P) .nil .nil) .nil) (.node (q638 P) .nil .nil)) (.node (q273 P) (.node (q401 P) (.node (q830 P) .nil .nil) .nil) (.node (q702 P) .nil .nil))) (.node (q174 P) (.node (q241 P) (.node (q369 P) (.node (q798 P) .nil .nil) .nil) (.node (q670 P) .nil .nil)) (.node (q305 P) (.node (q606 P) .nil .nil) (.node (q734 P) .nil .nil))))) (.node (q71 P) (.node (q91 P) (.node (q126 P) (.node (q201 P) (.node (q329 P) (.node (q758 P) .nil .nil) .nil) (.node (q630 P) .nil .nil)) (.node (q265 P) (.node (q393 P) (.node (q822 P) .nil .nil) .nil) (.node (q694 P) .nil .nil))) (.node (q163 P) (.node (q233 P) (.node (q361 P) (.node (q790 P) .nil .nil) .nil) (.node (q662 P) .nil .nil)) (.node (q297 P) (.node (q598 P) .nil .nil) (.node (q726 P) .nil .nil)))) (.node (q107 P) (.node (q144 P) (.node (q217 P) (.node (q345 P) (.node (q774 P) .nil .nil) .nil) (.node (q646 P) .nil .nil)) (.node (q281 P) (.node (q409 P) (.node (q838 P) .nil .nil) .nil) (.node (q710 P) .nil .nil))) (.node (q182 P) (.node (q249 P) (.node (q377 P) (.node (q806 P) .nil .nil) .nil) (.node (q678 P) .nil .nil)) (.node (q313 P) (.node (q614 P) .nil .nil) (.node (q742 P) .nil .nil))))))))
noncomputable def t1102 (P : Params) : BT := .node (q41 P) (.node (q42 P) (.node (q1059 P) (.node (q48 P) (.node (q56 P) (.node (q72 P) (.node (q108 P) (.node (q591 P) (.node (q314 P) (.node (q743 P) .nil .nil) .nil) (.node (q615 P) (.node (q1093 P) .nil .nil) .nil)) (.node (q250 P) (.node (q378 P) (.node (q807 P) .nil .nil) .nil) (.node (q679 P) .nil .nil))) (.node (q145 P) (.node (q218 P) (.node (q346 P) (.node (q775 P) .nil .nil) .nil) (.node (q647 P) .nil .nil)) (.node (q282 P) (.node (q410 P) (.node (q1061 P) .nil .nil) .nil) (.node (q711 P) .nil .nil)))) (.node (q92 P) (.node (q127 P) (.node (q202 P) (.node (q330 P) (.node (q759 P) .nil .nil) .nil) (.node (q631 P) .nil .nil)) (.node (q266 P) (.node (q394 P) (.node (q823 P) .nil .nil) .nil) (.node (q695 P) .nil .nil))) (.node (q164 P) (.node (q234 P) (.node (q362 P) (.node (q791 P) .nil .nil) .nil) (.node (q663 P) .nil .nil)) (.node (q298 P) (.node (q599 P) (.node (q1077 P) .nil .nil) .nil) (.node (q727 P) .nil .nil))))) (.node (q64 P) (.node (q84 P) (.node (q119 P) (.node (q194 P) (.node (q322 P) (.node (q751 P) .nil .nil) .nil) (.node (q623 P) (.node (q1101 P) .nil .nil) .nil)) (.node (q258 P) (.node (q386 P) (.node (q815 P) .nil .nil) .nil) (.node (q687 P) .nil .nil))) (.node (q153 P) (.node (q226 P) (.node (q354 P) (.node (q783 P) .nil .nil) .nil) (.node (q655 P) .nil .nil)) (.node (q290 P) (.node (q418 P) (.node (q1069 P) .nil .nil) .nil) (.node (q719 P) .nil .nil)))) (.node (q100 P) (.node (q137 P) (.node (q210 P) (.node (q338 P) (.node (q767 P) .nil .nil) .nil) (.node (q639 P) .nil .nil)) (.node (q274 P) (.node (q402 P) (.node (q831 P) .nil .nil) .nil) (.node (q703 P) .nil .nil))) (.node (q175 P) (.node (q242 P) (.node (q370 P) (.node (q799 P) .nil .nil) .nil) (.node (q671 P) .nil .nil)) (.node (q306 P) (.node (q607 P) (.node (q1085 P) .nil .nil) .nil) (.node (q735 P) .nil .nil)))))) (.node (q52 P) (.node (q60 P) (.node (q1060 P) (.node (q112 P) (.node (q190 P) (.node (q318 P) (.node (q747 P) .nil .nil) .nil) (.node (q619 P) (.node (q1097 P) .nil .nil) .nil)) (.node (q254 P) (.node (q382 P) (.node (q811 P) .nil .nil) .nil) (.node (q683 P) .nil .nil))) (.node (q149 P) (.node (q222 P) (.node (q350 P) (.node (q779 P) .nil .nil) .nil) (.node (q651 P) .nil .nil)) (.node (q286 P) (.node (q414 P) (.node (q1065 P) .nil .nil) .nil) (.node (q715 P) .nil .nil)))) (.node (q96 P) (.node (q131 P) (.node (q206 P) (.node (q334 P) (.node (q763 P) .nil .nil) .nil) (.node (q635 P) .nil .nil)) (.node (q270 P) (.node (q398 P) (.node (q827 P) .nil .nil) .nil) (.node (q699 P) .nil .nil))) (.node (q188 P) (.node (q238 P) (.node (q366 P) (.node (q795 P) .nil .nil) .nil) (.node (q667 P) .nil .nil)) (.node (q302 P) (.node (q603 P) (.node (q1081 P) .nil .nil) .nil) (.node (q731 P) .nil .nil))))) (.node (q68 P) (.node (q88 P) (.node (q123 P) (.node (q198 P) (.node (q326 P) (.node (q755 P) .nil .nil) .nil) (.node (q627 P) .nil .nil)) (.node (q262 P) (.node (q390 P) (.node (q819 P) .nil .nil) .nil) (.node (q691 P) .nil .nil))) (.node (q160 P) (.node (q230 P) (.node (q358 P) (.node (q787 P) .nil .nil) .nil) (.node (q659 P) .nil .nil)) (.node (q294 P) (.node (q595 P) (.node (q1073 P) .nil .nil) .nil) (.node (q723 P) .nil .nil)))) (.node (q104 P) (.node (q141 P) (.node (q214 P) (.node (q342 P) (.node (q771 P) .nil .nil) .nil) (.node (q643 P) .nil .nil)) (.node (q278 P) (.node (q406 P) (.node (q835 P) .nil .nil) .nil) (.node (q707 P) .nil .nil))) (.node (q179 P) (.node (q246 P) (.node (q374 P) (.node (q803 P) .nil .nil) .nil) (.node (q675 P) .nil .nil)) (.node (q310 P) (.node (q611 P) (.node (q1089 P) .nil .nil) .nil) (.node (q739 P) .nil .nil))))))) (.node (q46 P) (.node (q50 P) (.node (q58 P) (.node (q74 P) (.node (q110 P) (.node (q185 P) (.node (q316 P) (.node (q745 P) .nil .nil) .nil) (.node (q617 P) (.node (q1095 P) .nil .nil) .nil)) (.node (q252 P) (.node (q380 P) (.node (q809 P) .nil .nil) .nil) (.node (q681 P) .nil .nil))) (.node (q147 P) (.node (q220 P) (.node (q348 P) (.node (q777 P) .nil .nil) .nil) (.node (q649 P) .nil .nil)) (.node (q284 P) (.node (q412 P) (.node (q1063 P) .nil .nil) .nil) (.node (q713 P) .nil .nil)))) (.node (q94 P) (.node (q129 P) (.node (q204 P) (.node (q332 P) (.node (q761 P) .nil .nil) .nil) (.node (q633 P) .nil .nil)) (.node (q268 P) (.node (q396 P) (.node (q825 P) .nil .nil) .nil) (.node (q697 P) .nil .nil))) (.node (q166 P) (.node (q236 P) (.node (q364 P) (.node (q793 P) .nil .nil) .nil) (.node (q665 P) .nil .nil)) (.node (q300 P) (.node (q601 P) (.node (q1079 P) .nil .nil) .nil) (.node (q729 P) .nil .nil))))) (.node (q66 P) (.node (q86 P) (.node (q121 P) (.node (q196 P) (.node (q324 P) (.node (q753 P) .nil .nil) .nil) (.node (q625 P) .nil .nil)) (.node (q260 P) (.node (q388 P) (.node (q817 P) .nil .nil) .nil) (.node (q689 P) .nil .nil))) (.node (q155 P) (.node (q228 P) (.node (q356 P) (.node (q785 P) .nil .nil) .nil) (.node (q657 P) .nil .nil)) (.node (q292 P) (.node (q593 P) (.node (q1071 P) .nil .nil) .nil) (.node (q721 P) .nil .nil)))) (.node (q102 P) (.node (q139 P) (.node (q212 P) (.node (q340 P) (.node (q769 P) .nil .nil) .nil) (.node (q641 P) .nil .nil)) (.node (q276 P) (.node (q404 P) (.node (q833 P) .nil .nil) .nil) (.node (q705 P) .nil .nil))) (.node (q177 P) (.node (q244 P) (.node (q372 P) (.node (q801 P) .nil .nil) .nil) (.node (q673 P) .nil .nil)) (.node (q308 P) (.node (q609 P) (.node (q1087 P) .nil .nil) .nil) (.node (q737 P) .nil .nil)))))) (.node (q54 P) (.node (q62 P) (.node (q78 P) (.node (q114 P) (.node (q192 P) (.node (q320 P) (.node (q749 P) .nil .nil) .nil) (.node (q621 P) (.node (q1099 P) .nil .nil) .nil)) (.node (q256 P) (.node (q384 P) (.node (q813 P) .nil .nil) .nil) (.node (q685 P) .nil .nil))) (.node (q151 P) (.node (q224 P) (.node (q352 P) (.node (q781 P) .nil .nil) .nil) (.node (q653 P) .nil .nil)) (.node (q288 P) (.node (q416 P) (.node (q1067 P) .nil .nil) .nil) (.node (q717 P) .nil .nil)))) (.node (q98 P) (.node (q135 P) (.node (q208 P) (.node (q336 P) (.node (q765 P) .nil .nil) .nil) (.node (q637 P) .nil .nil)) (.node (q272 P) (.node (q400 P) (.node (q829 P) .nil .nil) .nil) (.node (q701 P) .nil .nil))) (.node (q170 P) (.node (q240 P) (.node (q368 P) (.node (q797 P) .nil .nil) .nil) (.node (q669 P) .nil .nil)) (.node (q304 P) (.node (q605 P) (.node (q1083 P) .nil .nil) .nil) (.node (q733 P) .nil .nil))))) (.node (q70 P) (.node (q90 P) (.node (q125 P) (.node (q200 P) (.node (q328 P) (.node (q757 P) .nil .nil) .nil) (.node (q629 P) .nil .nil)) (.node (q264 P) (.node (q392 P) (.node (q821 P) .nil .nil) .nil) (.node (q693 P) .nil .nil))) (.node (q162 P) (.node (q232 P) (.node (q360 P) (.node (q789 P) .nil .nil) .nil) (.node (q661 P) .nil .nil)) (.node (q296 P) (.node (q597 P) (.node (q1075 P) .nil .nil) .nil) (.node (q725 P) .nil .nil)))) (.node (q106 P) (.node (q143 P) (.node (q216 P) (.node (q344 P) (.node (q773 P) .nil .nil) .nil) (.node (q645 P) .nil .nil)) (.node (q280 P) (.node (q408 P) (.node (q837 P) .nil .nil) .nil) (.node (q709 P) .nil .nil))) (.node (q181 P) (.node (q248 P) (.node (q376 P) (.node (q805 P) .nil .nil) .nil) (.node (q677 P) .nil .nil)) (.node (q312 P) (.node (q613 P) (.node (q1091 P) .nil .nil) .nil) (.node (q741 P) .nil .nil)))))))) (.node (q116 P) (.node (q45 P) (.node (q49 P) (.node (q57 P) (.node (q73 P) (.node (q109 P) (.node (q184 P) (.node (q315 P) (.node (q744 P) .nil .nil) .nil) (.node (q616 P) (.node (q1094 P) .nil .nil) .nil)) (.node (q251 P) (.node (q379 P) (.node (q808 P) .nil .nil) .nil) (.node (q680 P) .nil .nil))) (.node (q146 P) (.node (q219 P) (.node (q347 P) (.node (q776 P) .nil .nil) .nil) (.node (q648 P) .nil .nil)) (.node (q283 P) (.node (q411 P) (.node (q1062 P) .nil .nil) .nil) (.node (q712 P) .nil .nil)))) (.node (q93 P) (.node (q128 P) (.node (q203 P) (.node (q331 P) (.node (q760 P) .nil .nil) .nil) (.node (q632 P) .nil .nil)) (.node (q267 P) (.node (q395 P) (.node (q824 P) .nil .nil) .nil) (.node (q696 P) .nil .nil))) (.node (q165 P) (.node (q235 P) (.node (q363 P) (.node (q792 P) .nil .nil) .nil) (.node (q664 P) .nil .nil)) (.node (q299 P) (.node (q600 P) (.node (q1078 P) .nil .nil) .nil) (.node (q728 P) .nil .nil))))) (.node (q65 P) (.node (q85 P) (.node (q120 P) (.node (q195 P) (.node (q323 P) (.node (q752 P) .nil .nil) .nil) (.node (q624 P) (.node (q1102 P) .nil .nil) .nil)) (.node (q259 P) (.node (q387 P) (.node (q816 P) .nil .nil) .nil) (.node (q688 P) .nil .nil))) (.node (q154 P) (.node (q227 P) (.node (q355 P) (.node (q784 P) .nil .nil) .nil) (.node (q656 P) .nil .nil)) (.node (q291 P) (.node (q592 P) (.node (q1070 P) .nil .nil) .nil) (.node (q720 P) .nil .nil)))) (.node (q101 P) (.node (q138 P) (.node (q211 P) (.node (q339 P) (.node (q768 P) .nil .nil) .nil) (.node (q640 P) .nil .nil)) (.node (q275 P) (.node (q403 P) (.node (q832 P) .nil .nil) .nil) (.node (q704 P) .nil .nil))) (.node (q176 P) (.node (q243 P) (.node (q371 P) (.node (q800 P) .nil .nil) .nil) (.node (q672 P) .nil .nil)) (.node (q307 P) (.node (q608 P) (.node (q1086 P) .nil .nil) .nil) (.node (q736 P) .nil .nil)))))) (.node (q53 P) (.node (q61 P) (.node (q77 P) (.node (q113 P) (.node (q191 P) (.node (q319 P) (.node (q748 P) .nil .nil) .nil) (.node (q620 P) (.node (q1098 P) .nil .nil) .nil)) (.node (q255 P) (.node (q383 P) (.node (q812 P) .nil .nil) .nil) (.node (q684 P) .nil .nil))) (.node (q173 P) (.node (q223 P) (.node (q351 P) (.node (q780 P) .nil .nil) .nil) (.node (q652 P) .nil .nil)) (.node (q287 P) (.node (q415 P) (.node (q1066 P) .nil .nil) .nil) (.node (q716 P) .nil .nil)))) (.node (q97 P) (.node (q134 P) (.node (q207 P) (.node (q335 P) (.node (q764 P) .nil .nil) .nil) (.node (q636 P) .nil .nil)) (.node (q271 P) (.node (q399 P) (.node (q828 P) .nil .nil) .nil) (.node (q700 P) .nil .nil))) (.node (q169 P) (.node (q239 P) (.node (q367 P) (.node (q796 P) .nil .nil) .nil) (.node (q668 P) .nil .nil)) (.node (q303 P) (.node (q604 P) (.node (q1082 P) .nil .nil) .nil) (.node (q732 P) .nil .nil))))) (.node (q69 P) (.node (q89 P) (.node (q124 P) (.node (q199 P) (.node (q327 P) (.node (q756 P) .nil .nil) .nil) (.node (q628 P) .nil .nil)) (.node (q263 P) (.node (q391 P) (.node (q820 P) .nil .nil) .nil) (.node (q692 P) .nil .nil))) (.node (q161 P) (.node (q231 P) (.node (q359 P) (.node (q788 P) .nil .nil) .nil) (.node (q660 P) .nil .nil)) (.node (q295 P) (.node (q596 P) (.node (q1074 P) .nil .nil) .nil) (.node (q724 P) .nil .nil)))) (.node (q105 P) (.node (q142 P) (.node (q215 P) (.node (q343 P) (.node (q772 P) .nil .nil) .nil) (.node (q644 P) .nil .nil)) (.node (q279 P) (.node (q407 P) (.node (q836 P) .nil .nil) .nil) (.node (q708 P) .nil .nil))) (.node (q180 P) (.node (q247 P) (.node (q375 P) (.node (q804 P) .nil .nil) .nil) (.node (q676 P) .nil .nil)) (.node (q311 P) (.node (q612 P) (.node (q1090 P) .nil .nil) .nil) (.node (q740 P) .nil .nil))))))) (.node (q47 P) (.node (q51 P) (.node (q59 P) (.node (q75 P) (.node (q111 P) (.node (q189 P) (.node (q317 P) (.node (q746 P) .nil .nil) .nil) (.node (q618 P) (.node (q1096 P) .nil .nil) .nil)) (.node (q253 P) (.node (q381 P) (.node (q810 P) .nil .nil) .nil) (.node (q682 P) .nil .nil))) (.node (q148 P) (.node (q221 P) (.node (q349 P) (.node (q778 P) .nil .nil) .nil) (.node (q650 P) .nil .nil)) (.node (q285 P) (.node (q413 P) (.node (q1064 P) .nil .nil) .nil) (.node (q714 P) .nil .nil)))) (.node (q95 P) (.node (q130 P) (.node (q205 P) (.node (q333 P) (.node (q762 P) .nil .nil) .nil) (.node (q634 P) .nil .nil)) (.node (q269 P) (.node (q397 P) (.node (q826 P) .nil .nil) .nil) (.node (q698 P) .nil .nil))) (.node (q167 P) (.node (q237 P) (.node (q365 P) (.node (q794 P) .nil .nil) .nil) (.node (q666 P) .nil .nil)) (.node (q301 P) (.node (q602 P) (.node (q1080 P) .nil .nil) .nil) (.node (q730 P) .nil .nil))))) (.node (q67 P) (.node (q87 P) (.node (q122 P) (.node (q197 P) (.node (q325 P) (.node (q754 P) .nil .nil) .nil) (.node (q626 P) .nil .nil)) (.node (q261 P) (.node (q389 P) (.node (q818 P) .nil .nil) .nil) (.node (q690 P) .nil .nil))) (.node (q159 P) (.node (q229 P) (.node (q357 P) (.node (q786 P) .nil .nil) .nil) (.node (q658 P) .nil .nil)) (.node (q293 P) (.node (q594 P) (.node (q1072 P) .nil .nil) .nil) (.node (q722 P) .nil .nil)))) (.node (q103 P) (.node (q140 P) (.node (q213 P) (.node (q341 P) (.node (q770 P) .nil .nil) .nil) (.node (q642 P) .nil .nil)) (.node (q277 P) (.node (q405 P) (.node (q834 P) .nil .nil) .nil) (.node (q706 P) .nil .nil))) (.node (q178 P) (.node (q245 P) (.node (q373 P) (.node (q802 P) .nil .nil) .nil) (.node (q674 P) .nil .nil)) (.node (q309 P) (.node (q610 P) (.node (q1088 P) .nil .nil) .nil) (.node (q738 P) .nil .nil)))))) (.node (q55 P) (.node (q63 P) (.node (q83 P) (.node (q115 P) (.node (q193 P) (.node (q321 P) (.node (q750 P) .nil .nil) .nil) (.node (q622 P) (.node (q1100 P) .nil .nil) .nil)) (.node (q257 P) (.node (q385 P) (.node (q814 P) .nil .nil) .nil) (.node (q686 P) .nil .nil))) (.node (q152 P) (.node (q225 P) (.node (q353 P) (.node (q782 P) .nil .nil) .nil) (.node (q654 P) .nil .nil)) (.node (q289 P) (.node (q417 P) (.node (q1068 P) .nil .nil) .nil) (.node (q718 P) .nil .nil)))) (.node (q99 P) (.node (q136 P) (.node (q209 P) (.node (q337 P) (.node (q766 P) .nil .nil) .nil) (.node (q638 P) .nil .nil)) (.node (q273 P) (.node (q401 P) (.node (q830 P) .nil .nil) .nil) (.node (q702 P) .nil .nil))) (.node (q174 P) (.node (q241 P) (.node (q369 P) (.node (q798 P) .nil .nil) .nil) (.node (q670 P) .nil .nil)) (.node (q305 P) (.node (q606 P) (.node (q1084 P) .nil .nil) .nil) (.node (q734 P) .nil .nil))))) (.node (q71 P) (.node (q91 P) (.node (q126 P) (.node (q201 P) (.node (q329 P) (.node (q758 P) .nil .nil) .nil) (.node (q630 P) .nil .nil)) (.node (q265 P) (.node (q393 P) (.node (q822 P) .nil .nil) .nil) (.node (q694 P) .nil .nil))) (.node (q163 P) (.node (q233 P) (.node (q361 P) (.node (q790 P) .nil .nil) .nil) (.node (q662 P) .nil .nil)) (.node (q297 P) (.node (q598 P) (.node (q1076 P) .nil .nil) .nil) (.node (q726 P) .nil .nil)))) (.node (q107 P) (.node (q144 P) (.node (q217 P) (.node (q345 P) (.node (q774 P) .nil .nil) .nil) (.node (q646 P) .nil .nil)) (.node (q281 P) (.node (q409 P) (.node (q838 P) .nil .nil) .nil) (.node (q710 P) .nil .nil))) (.node (q182 P) (.node (q249 P) (.node (q377 P) (.node (q806 P) .nil .nil) .nil) (.node (q678 P) .nil .nil)) (.node (q313 P) (.node (q614 P) (.node (q1092 P) .nil .nil) .nil) (.node (q742 P) .nil .nil))))))))
noncomputable def tFin (P : Params) : BT := .node (q41 P) (.node (q42 P) (.node (q1278 P) (.node (q48 P) (.node (q56 P) (.node (q72 P) (.node (q108 P) (.node (q591 P) (.node (q314 P) (.node (q743 P) .nil .nil) (.node (q1303 P) .nil .nil)) (.node (q615 P) (.node (q1093 P) .nil .nil) .nil)) (.node (q250 P) (.node (q378 P) (.node (q807 P) .nil .nil) .nil) (.node (q679 P) (.node (q1159 P) .nil .nil) .nil))) (.node (q145 P) (.node (q218 P) (.node (q346 P) (.node (q775 P) .nil .nil) (.node (q1335 P) .nil .nil)) (.node (q647 P) (.node (q1127 P) .nil .nil) .nil)) (.node (q282 P) (.node (q410 P) (.node (q1061 P) .nil .nil) .nil) (.node (q711 P) (.node (q1191 P) .nil .nil) .nil)))) (.node (q92 P) (.node (q127 P) (.node (q202 P) (.node (q330 P) (.node (q759 P) .nil .nil) (.node (q1319 P) .nil .nil)) (.node (q631 P) (.node (q1111 P) .nil .nil) .nil)) (.node (q266 P) (.node (q394 P) (.node (q823 P) .nil .nil) .nil) (.node (q695 P) (.node (q1175 P) .nil .nil) .nil))) (.node (q164 P) (.node (q234 P) (.node (q362 P) (.node (q791 P) .nil .nil) .nil) (.node (q663 P) (.node (q1143 P) .nil .nil) .nil)) (.node (q298 P) (.node (q599 P) (.node (q1077 P) .nil .nil) .nil) (.node (q727 P) (.node (q1287 P) .nil .nil) .nil))))) (.node (q64 P) (.node (q84 P) (.node (q119 P) (.node (q194 P) (.node (q322 P) (.node (q751 P) .nil .nil) (.node (q1311 P) .nil .nil)) (.node (q623 P) (.node (q1101 P) .nil .nil) .nil)) (.node (q258 P) (.node (q386 P) (.node (q815 P) .nil .nil) .nil) (.node (q687 P) (.node (q1167 P) .nil .nil) .nil))) (.node (q153 P) (.node (q226 P) (.node (q354 P) (.node (q783 P) .nil .nil) (.node (q1343 P) .nil .nil)) (.node (q655 P) (.node (q1135 P) .nil .nil) .nil)) (.node (q290 P) (.node (q418 P) (.node (q1069 P) .nil .nil) .nil) (.node (q719 P) (.node (q1199 P) .nil .nil) .nil)))) (.node (q100 P) (.node (q137 P) (.node (q210 P) (.node (q338 P) (.node (q767 P) .nil .nil) (.node (q1327 P) .nil .nil)) (.node (q639 P) (.node (q1119 P) .nil .nil) .nil)) (.node (q274 P) (.node (q402 P) (.node (q831 P) .nil .nil) .nil) (.node (q703 P) (.node (q1183 P) .nil .nil) .nil))) (.node (q175 P) (.node (q242 P) (.node (q370 P) (.node (q799 P) .nil .nil) .nil) (.node (q671 P) (.node (q1151 P) .nil .nil) .nil)) (.node (q306 P) (.node (q607 P) (.node (q1085 P) .nil .nil) .nil) (.node (q735 P) (.node (q1295 P) .nil .nil) .nil)))))) (.node (q52 P) (.node (q60 P) (.node (q1279 P) (.node (q112 P) (.node (q190 P) (.node (q318 P) (.node (q747 P) .nil .nil) (.node (q1307 P) .nil .nil)) (.node (q619 P) (.node (q1097 P) .nil .nil) .nil)) (.node (q254 P) (.node (q382 P) (.node (q811 P) .nil .nil) .nil) (.node (q683 P) (.node (q1163 P) .nil .nil) .nil))) (.node (q149 P) (.node (q222 P) (.node (q350 P) (.node (q779 P) .nil .nil) (.node (q1339 P) .nil .nil)) (.node (q651 P) (.node (q1131 P) .nil .nil) .nil)) (.node (q286 P) (.node (q414 P) (.node (q1065 P) .nil .nil) .nil) (.node (q715 P) (.node (q1195 P) .nil .nil) .nil)))) (.node (q96 P) (.node (q131 P) (.node (q206 P) (.node (q334 P) (.node (q763 P) .nil .nil) (.node (q1323 P) .nil .nil)) (.node (q635 P) (.node (q1115 P) .nil .nil) .nil)) (.node (q270 P) (.node (q398 P) (.node (q827 P) .nil .nil) .nil) (.node (q699 P) (.node (q1179 P) .nil .nil) .nil))) (.node (q188 P) (.node (q238 P) (.node (q366 P) (.node (q795 P) .nil .nil) .nil) (.node (q667 P) (.node (q1147 P) .nil .nil) .nil)) (.node (q302 P) (.node (q603 P) (.node (q1081 P) .nil .nil) .nil) (.node (q731 P) (.node (q1291 P) .nil .nil) .nil))))) (.node (q68 P) (.node (q88 P) (.node (q123 P) (.node (q198 P) (.node (q326 P) (.node (q755 P) .nil .nil) (.node (q1315 P) .nil .nil)) (.node (q627 P) (.node (q1107 P) .nil .nil) .nil)) (.node (q262 P) (.node (q390 P) (.node (q819 P) .nil .nil) .nil) (.node (q691 P) (.node (q1171 P) .nil .nil) .nil))) (.node (q160 P) (.node (q230 P) (.node (q358 P) (.node (q787 P) .nil .nil) (.node (q1347 P) .nil .nil)) (.node (q659 P) (.node (q1139 P) .nil .nil) .nil)) (.node (q294 P) (.node (q595 P) (.node (q1073 P) .nil .nil) .nil) (.node (q723 P) (.node (q1283 P) .nil .nil) .nil)))) (.node (q104 P) (.node (q141 P) (.node (q214 P) (.node (q342 P) (.node (q771 P) .nil .nil) (.node (q1331 P) .nil .nil)) (.node (q643 P) (.node (q1123 P) .nil .nil) .nil)) (.node (q278 P) (.node (q406 P) (.node (q835 P) .nil .nil) .nil) (.node (q707 P) (.node (q1187 P) .nil .nil) .nil))) (.node (q179 P) (.node (q246 P) (.node (q374 P) (.node (q803 P) .nil .nil) .nil) (.node (q675 P) (.node (q1155 P) .nil .nil) .nil)) (.node (q310 P) (.node (q611 P) (.node (q1089 P) .nil .nil) .nil) (.node (q739 P) (.node (q1299 P) .nil .nil) .nil))))))) (.node (q46 P) (.node (q50 P) (.node (q58 P) (.node (q74 P) (.node (q110 P) (.node (q185 P) (.node (q316 P) (.node (q745 P) .nil .nil) (.node (q1305 P) .nil .nil)) (.node (q617 P) (.node (q1095 P) .nil .nil) .nil)) (.node (q252 P) (.node (q380 P) (.node (q809 P) .nil .nil) .nil) (.node (q681 P) (.node (q1161 P) .nil .nil) .nil))) (.node (q147 P) (.node (q220 P) (.node (q348 P) (.node (q777 P) .nil .nil) (.node (q1337 P) .nil .nil)) (.node (q649 P) (.node (q1129 P) .nil .nil) .nil)) (.node (q284 P) (.node (q412 P) (.node (q1063 P) .nil .nil) .nil) (.node (q713 P) (.node (q1193 P) .nil .nil) .nil)))) (.node (q94 P) (.node (q129 P) (.node (q204 P) (.node (q332 P) (.node (q761 P) .nil .nil) (.node (q1321 P) .nil .nil)) (.node (q633 P) (.node (q1113 P) .nil .nil) .nil)) (.node (q268 P) (.node (q396 P) (.node (q825 P) .nil .nil) .nil) (.node (q697 P) (.node (q1177 P) .nil .nil) .nil))) (.node (q166 P) (.node (q236 P) (.node (q364 P) (.node (q793 P) .nil .nil) .nil) (.node (q665 P) (.node (q1145 P) .nil .nil) .nil)) (.node (q300 P) (.node (q601 P) (.node (q1079 P) .nil .nil) .nil) (.node (q729 P) (.node (q1289 P) .nil .nil) .nil))))) (.node (q66 P) (.node (q86 P) (.node (q121 P) (.node (q196 P) (.node (q324 P) (.node (q753 P) .nil .nil) (.node (q1313 P) .nil .nil)) (.node (q625 P) (.node (q1105 P) .nil .nil) .nil)) (.node (q260 P) (.node (q388 P) (.node (q817 P) .nil .nil) .nil) (.node (q689 P) (.node (q1169 P) .nil .nil) .nil))) (.node (q155 P) (.node (q228 P) (.node (q356 P) (.node (q785 P) .nil .nil) (.node (q1345 P) .nil .nil)) (.node (q657 P) (.node (q1137 P) .nil .nil) .nil)) (.node (q292 P) (.node (q593 P) (.node (q1071 P) .nil .nil) .nil) (.node (q721 P) (.node (q1281 P) .nil .nil) .nil)))) (.node (q102 P) (.node (q139 P) (.node (q212 P) (.node (q340 P) (.node (q769 P) .nil .nil) (.node (q1329 P) .nil .nil)) (.node (q641 P) (.node (q1121 P) .nil .nil) .nil)) (.node (q276 P) (.node (q404 P) (.node (q833 P) .nil .nil) .nil) (.node (q705 P) (.node (q1185 P) .nil .nil) .nil))) (.node (q177 P) (.node (q244 P) (.node (q372 P) (.node (q801 P) .nil .nil) .nil) (.node (q673 P) (.node (q1153 P) .nil .nil) .nil)) (.node (q308 P) (.node (q609 P) (.node (q1087 P) .nil .nil) .nil) (.node (q737 P) (.node (q1297 P) .nil .nil) .nil)))))) (.node (q54 P) (.node (q62 P) (.node (q78 P) (.node (q114 P) (.node (q192 P) (.node (q320 P) (.node (q749 P) .nil .nil) (.node (q1309 P) .nil .nil)) (.node (q621 P) (.node (q1099 P) .nil .nil) .nil)) (.node (q256 P) (.node (q384 P) (.node (q813 P) .nil .nil) .nil) (.node (q685 P) (.node (q1165 P) .nil .nil) .nil))) (.node (q151 P) (.node (q224 P) (.node (q352 P) (.node (q781 P) .nil .nil) (.node (q1341 P) .nil .nil)) (.node (q653 P) (.node (q1133 P) .nil .nil) .nil)) (.node (q288 P) (.node (q416 P) (.node (q1067 P) .nil .nil) .nil) (.node (q717 P) (.node (q1197 P) .nil .nil) .nil)))) (.node (q98 P) (.node (q135 P) (.node (q208 P) (.node (q336 P) (.node (q765 P) .nil .nil) (.node (q1325 P) .nil .nil)) (.node (q637 P) (.node (q1117 P) .nil .nil) .nil)) (.node (q272 P) (.node (q400 P) (.node (q829 P) .nil .nil) .nil) (.node (q701 P) (.node (q1181 P) .nil .nil) .nil))) (.node (q170 P) (.node (q240 P) (.node (q368 P) (.node (q797 P) .nil .nil) .nil) (.node (q669 P) (.node (q1149 P) .nil .nil) .nil)) (.node (q304 P) (.node (q605 P) (.node (q1083 P) .nil .nil) .nil) (.node (q733 P) (.node (q1293 P) .nil .nil) .nil))))) (.node (q70 P) (.node (q90 P) (.node (q125 P) (.node (q200 P) (.node (q328 P) (.node (q757 P) .nil .nil) (.node (q1317 P) .nil .nil)) (.node (q629 P) (.node (q1109 P) .nil .nil) .nil)) (.node (q264 P) (.node (q392 P) (.node (q821 P) .nil .nil) .nil) (.node (q693 P) (.node (q1173 P) .nil .nil) .nil))) (.node (q162 P) (.node (q232 P) (.node (q360 P) (.node (q789 P) .nil .nil) (.node (q1349 P) .nil .nil)) (.node (q661 P) (.node (q1141 P) .nil .nil) .nil)) (.node (q296 P) (.node (q597 P) (.node (q1075 P) .nil .nil) .nil) (.node (q725 P) (.node (q1285 P) .nil .nil) .nil)))) (.node (q106 P) (.node (q143 P) (.node (q216 P) (.node (q344 P) (.node (q773 P) .nil .nil) (.node (q1333 P) .nil .nil)) (.node (q645 P) (.node (q1125 P) .nil .nil) .nil)) (.node (q280 P) (.node (q408 P) (.node (q837 P) .nil .nil) .nil) (.node (q709 P) (.node (q1189 P) .nil .nil) .nil))) (.node (q181 P) (.node (q248 P) (.node (q376 P) (.node (q805 P) .nil .nil) .nil) (.node (q677 P) (.node (q1157 P) .nil .nil) .nil)) (.node (q312 P) (.node (q613 P) (.node (q1091 P) .nil .nil) .nil) (.node (q741 P) (.node (q1301 P) .nil .nil) .nil)))))))) (.node (q116 P) (.node (q45 P) (.node (q49 P) (.node (q57 P) (.node (q73 P) (.node (q109 P) (.node (q184 P) (.node (q315 P) (.node (q744 P) .nil .nil) (.node (q1304 P) .nil .nil)) (.node (q616 P) (.node (q1094 P) .nil .nil) .nil)) (.node (q251 P) (.node (q379 P) (.node (q808 P) .nil .nil) .nil) (.node (q680 P) (.node (q1160 P) .nil .nil) .nil))) (.node (q146 P) (.node (q219 P) (.node (q347 P) (.node (q776 P) .nil .nil) (.node (q1336 P) .nil .nil)) (.node (q648 P) (.node (q1128 P) .nil .nil) .nil)) (.node (q283 P) (.node (q411 P) (.node (q1062 P) .nil .nil) .nil) (.node (q712 P) (.node (q1192 P) .nil .nil) .nil)))) (.node (q93 P) (.node (q128 P) (.node (q203 P) (.node (q331 P) (.node (q760 P) .nil .nil) (.node (q1320 P) .nil .nil)) (.node (q632 P) (.node (q1112 P) .nil .nil) .nil)) (.node (q267 P) (.node (q395 P) (.node (q824 P) .nil .nil) .nil) (.node (q696 P) (.node (q1176 P) .nil .nil) .nil))) (.node (q165 P) (.node (q235 P) (.node (q363 P) (.node (q792 P) .nil .nil) .nil) (.node (q664 P) (.node (q1144 P) .nil .nil) .nil)) (.node (q299 P) (.node (q600 P) (.node (q1078 P) .nil .nil) .nil) (.node (q728 P) (.node (q1288 P) .nil .nil) .nil))))) (.node (q65 P) (.node (q85 P) (.node (q120 P) (.node (q195 P) (.node (q323 P) (.node (q752 P) .nil .nil) (.node (q1312 P) .nil .nil)) (.node (q624 P) (.node (q1102 P) .nil .nil) .nil)) (.node (q259 P) (.node (q387 P) (.node (q816 P) .nil .nil) .nil) (.node (q688 P) (.node (q1168 P) .nil .nil) .nil))) (.node (q154 P) (.node (q227 P) (.node (q355 P) (.node (q784 P) .nil .nil) (.node (q1344 P) .nil .nil)) (.node (q656 P) (.node (q1136 P) .nil .nil) .nil)) (.node (q291 P) (.node (q592 P) (.node (q1070 P) .nil .nil) .nil) (.node (q720 P) (.node (q1280 P) .nil .nil) .nil)))) (.node (q101 P) (.node (q138 P) (.node (q211 P) (.node (q339 P) (.node (q768 P) .nil .nil) (.node (q1328 P) .nil .nil)) (.node (q640 P) (.node (q1120 P) .nil .nil) .nil)) (.node (q275 P) (.node (q403 P) (.node (q832 P) .nil .nil) .nil) (.node (q704 P) (.node (q1184 P) .nil .nil) .nil))) (.node (q176 P) (.node (q243 P) (.node (q371 P) (.node (q800 P) .nil .nil) .nil) (.node (q672 P) (.node (q1152 P) .nil .nil) .nil)) (.node (q307 P) (.node (q608 P) (.node (q1086 P) .nil .nil) .nil) (.node (q736 P) (.node (q1296 P) .nil .nil) .nil)))))) (.node (q53 P) (.node (q61 P) (.node (q77 P) (.node (q113 P) (.node (q191 P) (.node (q319 P) (.node (q748 P) .nil .nil) (.node (q1308 P) .nil .nil)) (.node (q620 P) (.node (q1098 P) .nil .nil) .nil)) (.node (q255 P) (.node (q383 P) (.node (q812 P) .nil .nil) .nil) (.node (q684 P) (.node (q1164 P) .nil .nil) .nil))) (.node (q173 P) (.node (q223 P) (.node (q351 P) (.node (q780 P) .nil .nil) (.node (q1340 P) .nil .nil)) (.node (q652 P) (.node (q1132 P) .nil .nil) .nil)) (.node (q287 P) (.node (q415 P) (.node (q1066 P) .nil .nil) .nil) (.node (q716 P) (.node (q1196 P) .nil .nil) .nil)))) (.node (q97 P) (.node (q134 P) (.node (q207 P) (.node (q335 P) (.node (q764 P) .nil .nil) (.node (q1324 P) .nil .nil)) (.node (q636 P) (.node (q1116 P) .nil .nil) .nil)) (.node (q271 P) (.node (q399 P) (.node (q828 P) .nil .nil) .nil) (.node (q700 P) (.node (q1180 P) .nil .nil) .nil))) (.node (q169 P) (.node (q239 P) (.node (q367 P) (.node (q796 P) .nil .nil) .nil) (.node (q668 P) (.node (q1148 P) .nil .nil) .nil)) (.node (q303 P) (.node (q604 P) (.node (q1082 P) .nil .nil) .nil) (.node (q732 P) (.node (q1292 P) .nil .nil) .nil))))) (.node (q69 P) (.node (q89 P) (.node (q124 P) (.node (q199 P) (.node (q327 P) (.node (q756 P) .nil .nil) (.node (q1316 P) .nil .nil)) (.node (q628 P) (.node (q1108 P) .nil .nil) .nil)) (.node (q263 P) (.node (q391 P) (.node (q820 P) .nil .nil) .nil) (.node (q692 P) (.node (q1172 P) .nil .nil) .nil))) (.node (q161 P) (.node (q231 P) (.node (q359 P) (.node (q788 P) .nil .nil) (.node (q1348 P) .nil .nil)) (.node (q660 P) (.node (q1140 P) .nil .nil) .nil)) (.node (q295 P) (.node (q596 P) (.node (q1074 P) .nil .nil) .nil) (.node (q724 P) (.node (q1284 P) .nil .nil) .nil)))) (.node (q105 P) (.node (q142 P) (.node (q215 P) (.node (q343 P) (.node (q772 P) .nil .nil) (.node (q1332 P) .nil .nil)) (.node (q644 P) (.node (q1124 P) .nil .nil) .nil)) (.node (q279 P) (.node (q407 P) (.node (q836 P) .nil .nil) .nil) (.node (q708 P) (.node (q1188 P) .nil .nil) .nil))) (.node (q180 P) (.node (q247 P) (.node (q375 P) (.node (q804 P) .nil .nil) .nil) (.node (q676 P) (.node (q1156 P) .nil .nil) .nil)) (.node (q311 P) (.node (q612 P) (.node (q1090 P) .nil .nil) .nil) (.node (q740 P) (.node (q1300 P) .nil .nil) .nil))))))) (.node (q47 P) (.node (q51 P) (.node (q59 P) (.node (q75 P) (.node (q111 P) (.node (q189 P) (.node (q317 P) (.node (q746 P) .nil .nil) (.node (q1306 P) .nil .nil)) (.node (q618 P) (.node (q1096 P) .nil .nil) .nil)) (.node (q253 P) (.node (q381 P) (.node (q810 P) .nil .nil) .nil) (.node (q682 P) (.node (q1162 P) .nil .nil) .nil))) (.node (q148 P) (.node (q221 P) (.node (q349 P) (.node (q778 P) .nil .nil) (.node (q1338 P) .nil .nil)) (.node (q650 P) (.node (q1130 P) .nil .nil) .nil)) (.node (q285 P) (.node (q413 P) (.node (q1064 P) .nil .nil) .nil) (.node (q714 P) (.node (q1194 P) .nil .nil) .nil)))) (.node (q95 P) (.node (q130 P) (.node (q205 P) (.node (q333 P) (.node (q762 P) .nil .nil) (.node (q1322 P) .nil .nil)) (.node (q634 P) (.node (q1114 P) .nil .nil) .nil)) (.node (q269 P) (.node (q397 P) (.node (q826 P) .nil .nil) .nil) (.node (q698 P) (.node (q1178 P) .nil .nil) .nil))) (.node (q167 P) (.node (q237 P) (.node (q365 P) (.node (q794 P) .nil .nil) .nil) (.node (q666 P) (.node (q1146 P) .nil .nil) .nil)) (.node (q301 P) (.node (q602 P) (.node (q1080 P) .nil .nil) .nil) (.node (q730 P) (.node (q1290 P) .nil .nil) .nil))))) (.node (q67 P) (.node (q87 P) (.node (q122 P) (.node (q197 P) (.node (q325 P) (.node (q754 P) .nil .nil) (.node (q1314 P) .nil .nil)) (.node (q626 P) (.node (q1106 P) .nil .nil) .nil)) (.node (q261 P) (.node (q389 P) (.node (q818 P) .nil .nil) .nil) (.node (q690 P) (.node (q1170 P) .nil .nil) .nil))) (.node (q159 P) (.node (q229 P) (.node (q357 P) (.node (q786 P) .nil .nil) (.node (q1346 P) .nil .nil)) (.node (q658 P) (.node (q1138 P) .nil .nil) .nil)) (.node (q293 P) (.node (q594 P) (.node (q1072 P) .nil .nil) .nil) (.node (q722 P) (.node (q1282 P) .nil .nil) .nil)))) (.node (q103 P) (.node (q140 P) (.node (q213 P) (.node (q341 P) (.node (q770 P) .nil .nil) (.node (q1330 P) .nil .nil)) (.node (q642 P) (.node (q1122 P) .nil .nil) .nil)) (.node (q277 P) (.node (q405 P) (.node (q834 P) .nil .nil) .nil) (.node (q706 P) (.node (q1186 P) .nil .nil) .nil))) (.node (q178 P) (.node (q245 P) (.node (q373 P) (.node (q802 P) .nil .nil) .nil) (.node (q674 P) (.node (q1154 P) .nil .nil) .nil)) (.node (q309 P) (.node (q610 P) (.node (q1088 P) .nil .nil) .nil) (.node (q738 P) (.node (q1298 P) .nil .nil) .nil)))))) (.node (q55 P) (.node (q63 P) (.node (q83 P) (.node (q115 P) (.node (q193 P) (.node (q321 P) (.node (q750 P) .nil .nil) (.node (q1310 P) .nil .nil)) (.node (q622 P) (.node (q1100 P) .nil .nil) .nil)) (.node (q257 P) (.node (q385 P) (.node (q814 P) .nil .nil) .nil) (.node (q686 P) (.node (q1166 P) .nil .nil) .nil))) (.node (q152 P) (.node (q225 P) (.node (q353 P) (.node (q782 P) .nil .nil) (.node (q1342 P) .nil .nil)) (.node (q654 P) (.node (q1134 P) .nil .nil) .nil)) (.node (q289 P) (.node (q417 P) (.node (q1068 P) .nil .nil) .nil) (.node (q718 P) (.node (q1198 P) .nil .nil) .nil)))) (.node (q99 P) (.node (q136 P) (.node (q209 P) (.node (q337 P) (.node (q766 P) .nil .nil) (.node (q1326 P) .nil .nil)) (.node (q638 P) (.node (q1118 P) .nil .nil) .nil)) (.node (q273 P) (.node (q401 P) (.node (q830 P) .nil .nil) .nil) (.node (q702 P) (.node (q1182 P) .nil .nil) .nil))) (.node (q174 P) (.node (q241 P) (.node (q369 P) (.node (q798 P) .nil .nil) .nil) (.node (q670 P) (.node (q1150 P) .nil .nil) .nil)) (.node (q305 P) (.node (q606 P) (.node (q1084 P) .nil .nil) .nil) (.node (q734 P) (.node (q1294 P) .nil .nil) .nil))))) (.node (q71 P) (.node (q91 P) (.node (q126 P) (.node (q201 P) (.node (q329 P) (.node (q758 P) .nil .nil) (.node (q1318 P) .nil .nil)) (.node (q630 P) (.node (q1110 P) .nil .nil) .nil)) (.node (q265 P) (.node (q393 P) (.node (q822 P) .nil .nil) .nil) (.node (q694 P) (.node (q1174 P) .nil .nil) .nil))) (.node (q163 P) (.node (q233 P) (.node (q361 P) (.node (q790 P) .nil .nil) (.node (q1350 P) .nil .nil)) (.node (q662 P) (.node (q1142 P) .nil .nil) .nil)) (.node (q297 P) (.node (q598 P) (.node (q1076 P) .nil .nil) .nil) (.node (q726 P) (.node (q1286 P) .nil .nil) .nil)))) (.node (q107 P) (.node (q144 P) (.node (q217 P) (.node (q345 P) (.node (q774 P) .nil .nil) (.node (q1334 P) .nil .nil)) (.node (q646 P) (.node (q1126 P) .nil .nil) .nil)) (.node (q281 P) (.node (q409 P) (.node (q838 P) .nil .nil) .nil) (.node (q710 P) (.node (q1190 P) .nil .nil) .nil))) (.node (q182 P) (.node (q249 P) (.node (q377 P) (.node (q806 P) .nil .nil) .nil) (.node (q678 P) (.node (q1158 P) .nil .nil) .nil)) (.node (q313 P) (.node (q614 P) (.node (q1092 P) .nil .nil) .nil) (.node (q742 P) (.node (q1302 P) .nil .nil) .nil))))))))
noncomputable def kFrag : Params → Frag := fun P => (nat_lit 2, q116 P) :: (nat_lit 3, q1278 P) :: (nat_lit 38, q83 P) :: (nat_lit 40, q85 P) :: (nat_lit 41, q86 P) :: (nat_lit 43, q88 P) :: (nat_lit 44, q89 P) :: (nat_lit 45, q90 P) :: (nat_lit 47, q92 P) :: (nat_lit 48, q93 P) :: (nat_lit 50, q95 P) :: (nat_lit 51, q96 P) :: (nat_lit 55, q100 P) :: (nat_lit 56, q101 P) :: (nat_lit 57, q102 P) :: (nat_lit 59, q104 P) :: (nat_lit 60, q105 P) :: (nat_lit 62, q107 P) :: (nat_lit 63, q108 P) :: (nat_lit 64, q109 P) :: (nat_lit 66, q111 P) :: (nat_lit 67, q112 P) :: (nat_lit 69, q114 P) :: (nat_lit 70, q115 P) :: (nat_lit 71, q119 P) :: (nat_lit 78, q126 P) :: (nat_lit 79, q127 P) :: (nat_lit 80, q128 P) :: (nat_lit 81, q129 P) :: (nat_lit 91, q141 P) :: (nat_lit 93, q143 P) :: (nat_lit 94, q144 P) :: (nat_lit 96, q146 P) :: (nat_lit 97, q147 P) :: (nat_lit 98, q148 P) :: (nat_lit 99, q149 P) :: (nat_lit 100, q173 P) :: (nat_lit 101, q151 P) :: (nat_lit 102, q152 P) :: (nat_lit 103, q153 P) :: (nat_lit 106, q159 P) :: (nat_lit 113, q166 P) :: (nat_lit 114, q167 P) :: (nat_lit 115, q188 P) :: (nat_lit 118, q174 P) :: (nat_lit 125, q181 P) :: (nat_lit 126, q182 P) :: (nat_lit 127, q591 P) :: (nat_lit 130, q189 P) :: (nat_lit 137, q196 P) :: (nat_lit 138, q197 P) :: (nat_lit 140, q199 P) :: (nat_lit 141, q200 P) :: (nat_lit 143, q202 P) :: (nat_lit 144, q203 P) :: (nat_lit 145, q204 P) :: (nat_lit 147, q206 P) :: (nat_lit 148, q207 P) :: (nat_lit 150, q209 P) :: (nat_lit 151, q210 P) :: (nat_lit 152, q211 P) :: (nat_lit 154, q213 P) :: (nat_lit 155, q214 P) :: (nat_lit 157, q216 P) :: (nat_lit 158, q217 P) :: (nat_lit 159, q218 P) :: (nat_lit 161, q220 P) :: (nat_lit 162, q221 P) :: (nat_lit 164, q223 P) :: (nat_lit 165, q224 P) :: (nat_lit 166, q225 P) :: (nat_lit 167, q226 P) :: (nat_lit 169, q228 P) :: (nat_lit 170, q229 P) :: (nat_lit 172, q231 P) :: (nat_lit 173, q232 P) :: (nat_lit 174, q233 P) :: (nat_lit 176, q235 P) :: (nat_lit 177, q236 P) :: (nat_lit 179, q238 P) :: (nat_lit 180, q239 P) :: (nat_lit 181, q240 P) :: (nat_lit 183, q242 P) :: (nat_lit 184, q243 P) :: (nat_lit 186, q245 P) :: (nat_lit 187, q246 P) :: (nat_lit 188, q247 P) :: (nat_lit 190, q249 P) :: (nat_lit 191, q250 P) :: (nat_lit 193, q252 P) :: (nat_lit 194, q253 P) :: (nat_lit 195, q254 P) :: (nat_lit 197, q256 P) :: (nat_lit 198, q257 P) :: (nat_lit 200, q259 P) :: (nat_lit 201, q260 P) :: (nat_lit 202, q261 P) :: (nat_lit 204, q263 P) :: (nat_lit 205, q264 P) :: (nat_lit 207, q266 P) :: (nat_lit 208, q267 P) :: (nat_lit 209, q268 P) :: (nat_lit 211, q270 P) :: (nat_lit 212, q271 P) :: (nat_lit 214, q273 P) :: (nat_lit 215, q274 P) :: (nat_lit 216, q275 P) :: (nat_lit 218, q277 P) :: (nat_lit 219, q278 P) :: (nat_lit 221, q280 P) :: (nat_lit 222, q281 P) :: (nat_lit 223, q282 P) :: (nat_lit 225, q284 P) :: (nat_lit 226, q285 P) :: (nat_lit 228, q287 P) :: (nat_lit 229, q288 P) :: (nat_lit 230, q289 P) :: (nat_lit 232, q291 P) :: (nat_lit 233, q292 P) :: (nat_lit 235, q294 P) :: (nat_lit 236, q295 P) :: (nat_lit 237, q296 P) :: (nat_lit 239, q298 P) :: (nat_lit 240, q299 P) :: (nat_lit 242, q301 P) :: (nat_lit 243, q302 P) :: (nat_lit 244, q303 P) :: (nat_lit 246, q305 P) :: (nat_lit 247, q306 P) :: (nat_lit 249, q308 P) :: (nat_lit 250, q309 P) :: (nat_lit 251, q310 P) :: (nat_lit 253, q312 P) :: (nat_lit 254, q313 P) :: (nat_lit 256, q315 P) :: (nat_lit 257, q316 P) :: (nat_lit 258, q317 P) :: (nat_lit 259, q318 P) :: (nat_lit 261, q320 P) :: (nat_lit 262, q321 P) :: (nat_lit 264, q323 P) :: (nat_lit 265, q324 P) :: (nat_lit 266, q325 P) :: (nat_lit 267, q326 P) :: (nat_lit 269, q328 P) :: (nat_lit 270, q329 P) :: (nat_lit 272, q331 P) :: (nat_lit 273, q332 P) :: (nat_lit 274, q333 P) :: (nat_lit 275, q334 P) :: (nat_lit 277, q336 P) :: (nat_lit 278, q337 P) :: (nat_lit 280, q339 P) :: (nat_lit 281, q340 P) :: (nat_lit 282, q341 P) :: (nat_lit 283, q342 P) :: (nat_lit 285, q344 P) :: (nat_lit 286, q345 P) :: (nat_lit 288, q347 P) :: (nat_lit 289, q348 P) :: (nat_lit 290, q349 P) :: (nat_lit 292, q351 P) :: (nat_lit 293, q352 P) :: (nat_lit 295, q354 P) :: (nat_lit 296, q355 P) :: (nat_lit 297, q356 P) :: (nat_lit 299, q358 P) :: (nat_lit 300, q359 P) :: (nat_lit 302, q361 P) :: (nat_lit 303, q362 P) :: (nat_lit 304, q363 P) :: (nat_lit 305, q364 P) :: (nat_lit 307, q366 P) :: (nat_lit 308, q367 P) :: (nat_lit 310, q369 P) :: (nat_lit 311, q370 P) :: (nat_lit 312, q371 P) :: (nat_lit 313, q372 P) :: (nat_lit 315, q374 P) :: (nat_lit 316, q375 P) :: (nat_lit 318, q377 P) :: (nat_lit 319, q378 P) :: (nat_lit 320, q379 P) :: (nat_lit 322, q381 P) :: (nat_lit 323, q382 P) :: (nat_lit 325, q384 P) :: (nat_lit 326, q385 P) :: (nat_lit 327, q386 P) :: (nat_lit 329, q388 P) :: (nat_lit 330, q389 P) :: (nat_lit 332, q391 P) :: (nat_lit 333, q392 P) :: (nat_lit 334, q393 P) :: (nat_lit 336, q395 P) :: (nat_lit 337, q396 P) :: (nat_lit 339, q398 P) :: (nat_lit 340, q399 P) :: (nat_lit 341, q400 P) :: (nat_lit 343, q402 P) :: (nat_lit 344, q403 P) :: (nat_lit 346, q405 P) :: (nat_lit 347, q406 P) :: (nat_lit 348, q407 P) :: (nat_lit 350, q409 P) :: (nat_lit 351, q410 P) :: (nat_lit 353, q412 P) :: (nat_lit 354, q413 P) :: (nat_lit 355, q414 P) :: (nat_lit 356, q415 P) :: (nat_lit 357, q416 P) :: (nat_lit 360, q592 P) :: (nat_lit 367, q599 P) :: (nat_lit 368, q600 P) :: (nat_lit 370, q602 P) :: (nat_lit 371, q603 P) :: (nat_lit 373, q605 P) :: (nat_lit 374, q606 P) :: (nat_lit 375, q607 P) :: (nat_lit 377, q609 P) :: (nat_lit 378, q610 P) :: (nat_lit 380, q612 P) :: (nat_lit 381, q613 P) :: (nat_lit 382, q614 P) :: (nat_lit 384, q616 P) :: (nat_lit 385, q617 P) :: (nat_lit 387, q619 P) :: (nat_lit 388, q620 P) :: (nat_lit 389, q621 P) :: (nat_lit 391, q623 P) :: (nat_lit 392, q624 P) :: (nat_lit 394, q626 P) :: (nat_lit 395, q627 P) :: (nat_lit 396, q628 P) :: (nat_lit 398, q630 P) :: (nat_lit 399, q631 P) :: (nat_lit 401, q633 P) :: (nat_lit 402, q634 P) :: (nat_lit 403, q635 P) :: (nat_lit 405, q637 P) :: (nat_lit 406, q638 P) :: (nat_lit 408, q640 P) :: (nat_lit 409, q641 P) :: (nat_lit 410, q642 P) :: (nat_lit 411, q643 P) :: (nat_lit 413, q645 P) :: (nat_lit 414, q646 P) :: (nat_lit 416, q648 P) :: (nat_lit 417, q649 P) :: (nat_lit 418, q650 P) :: (nat_lit 419, q651 P) :: (nat_lit 421, q653 P) :: (nat_lit 422, q654 P) :: (nat_lit 424, q656 P) :: (nat_lit 425, q657 P) :: (nat_lit 426, q658 P) :: (nat_lit 427, q659 P) :: (nat_lit 429, q661 P) :: (nat_lit 430, q662 P) :: (nat_lit 432, q664 P) :: (nat_lit 433, q665 P) :: (nat_lit 434, q666 P) :: (nat_lit 435, q667 P) :: (nat_lit 437, q669 P) :: (nat_lit 438, q670 P) :: (nat_lit 440, q672 P) :: (nat_lit 441, q673 P) :: (nat_lit 442, q674 P) :: (nat_lit 443, q675 P) :: (nat_lit 445, q677 P) :: (nat_lit 446, q678 P) :: (nat_lit 448, q680 P) :: (nat_lit 449, q681 P) :: (nat_lit 450, q682 P) :: (nat_lit 452, q684 P) :: (nat_lit 453, q685 P) :: (nat_lit 455, q687 P) :: (nat_lit 456, q688 P) :: (nat_lit 457, q689 P) :: (nat_lit 459, q691 P) :: (nat_lit 460, q692 P) :: (nat_lit 462, q694 P) :: (nat_lit 463, q695 P) :: (nat_lit 464, q696 P) :: (nat_lit 466, q698 P) :: (nat_lit 467, q699 P) :: (nat_lit 469, q701 P) :: (nat_lit 470, q702 P) :: (nat_lit 471, q703 P) :: (nat_lit 473, q705 P) :: (nat_lit 474, q706 P) :: (nat_lit 476, q708 P) :: (nat_lit 477, q709 P) :: (nat_lit 478, q710 P) :: (nat_lit 480, q712 P) :: (nat_lit 481, q713 P) :: (nat_lit 483, q715 P) :: (nat_lit 484, q716 P) :: (nat_lit 485, q717 P) :: (nat_lit 487, q719 P) :: (nat_lit 488, q720 P) :: (nat_lit 490, q722 P) :: (nat_lit 491, q723 P) :: (nat_lit 492, q724 P) :: (nat_lit 494, q726 P) :: (nat_lit 495, q727 P) :: (nat_lit 497, q729 P) :: (nat_lit 498, q730 P) :: (nat_lit 499, q731 P) :: (nat_lit 501, q733 P) :: (nat_lit 502, q734 P) :: (nat_lit 504, q736 P) :: (nat_lit 505, q737 P) :: (nat_lit 506, q738 P) :: (nat_lit 508, q740 P) :: (nat_lit 509, q741 P) :: (nat_lit 511, q743 P) :: (nat_lit 512, q744 P) :: (nat_lit 513, q745 P) :: (nat_lit 515, q747 P) :: (nat_lit 516, q748 P) :: (nat_lit 518, q750 P) :: (nat_lit 519, q751 P) :: (nat_lit 520, q752 P) :: (nat_lit 522, q754 P) :: (nat_lit 523, q755 P) :: (nat_lit 525, q757 P) :: (nat_lit 526, q758 P) :: (nat_lit 527, q759 P) :: (nat_lit 528, q760 P) :: (nat_lit 530, q762 P) :: (nat_lit 531, q763 P) :: (nat_lit 533, q765 P) :: (nat_lit 534, q766 P) :: (nat_lit 535, q767 P) :: (nat_lit 536, q768 P) :: (nat_lit 538, q770 P) :: (nat_lit 539, q771 P) :: (nat_lit 541, q773 P) :: (nat_lit 542, q774 P) :: (nat_lit 543, q775 P) :: (nat_lit 544, q776 P) :: (nat_lit 546, q778 P) :: (nat_lit 547, q779 P) :: (nat_lit 549, q781 P) :: (nat_lit 550, q782 P) :: (nat_lit 551, q783 P) :: (nat_lit 552, q784 P) :: (nat_lit 554, q786 P) :: (nat_lit 555, q787 P) :: (nat_lit 557, q789 P) :: (nat_lit 558, q790 P) :: (nat_lit 559, q791 P) :: (nat_lit 560, q792 P) :: (nat_lit 562, q794 P) :: (nat_lit 563, q795 P) :: (nat_lit 565, q797 P) :: (nat_lit 566, q798 P) :: (nat_lit 567, q799 P) :: (nat_lit 569, q801 P) :: (nat_lit 570, q802 P) :: (nat_lit 572, q804 P) :: (nat_lit 573, q805 P) :: (nat_lit 574, q806 P) :: (nat_lit 576, q808 P) :: (nat_lit 577, q809 P) :: (nat_lit 579, q811 P) :: (nat_lit 580, q812 P) :: (nat_lit 581, q813 P) :: (nat_lit 583, q815 P) :: (nat_lit 584, q816 P) :: (nat_lit 586, q818 P) :: (nat_lit 587, q819 P) :: (nat_lit 588, q820 P) :: (nat_lit 590, q822 P) :: (nat_lit 591, q823 P) :: (nat_lit 593, q825 P) :: (nat_lit 594, q826 P) :: (nat_lit 595, q827 P) :: (nat_lit 597, q829 P) :: (nat_lit 598, q830 P) :: (nat_lit 600, q832 P) :: (nat_lit 601, q833 P) :: (nat_lit 602, q834 P) :: (nat_lit 603, q835 P) :: (nat_lit 604, q836 P) :: (nat_lit 607, q1061 P) :: (nat_lit 609, q1063 P) :: (nat_lit 610, q1064 P) :: (nat_lit 612, q1066 P) :: (nat_lit 613, q1067 P) :: (nat_lit 614, q1068 P) :: (nat_lit 616, q1070 P) :: (nat_lit 617, q1071 P) :: (nat_lit 619, q1073 P) :: (nat_lit 620, q1074 P) :: (nat_lit 621, q1075 P) :: (nat_lit 623, q1077 P) :: (nat_lit 624, q1078 P) :: (nat_lit 626, q1080 P) :: (nat_lit 627, q1081 P) :: (nat_lit 628, q1082 P) :: (nat_lit 630, q1084 P) :: (nat_lit 631, q1085 P) :: (nat_lit 633, q1087 P) :: (nat_lit 634, q1088 P) :: (nat_lit 635, q1089 P) :: (nat_lit 637, q1091 P) :: (nat_lit 638, q1092 P) :: (nat_lit 640, q1094 P) :: (nat_lit 641, q1095 P) :: (nat_lit 642, q1096 P) :: (nat_lit 644, q1098 P) :: (nat_lit 645, q1099 P) :: (nat_lit 647, q1101 P) :: (nat_lit 648, q1102 P) :: (nat_lit 656, q1112 P) :: (nat_lit 657, q1113 P) :: (nat_lit 659, q1115 P) :: (nat_lit 660, q1116 P) :: (nat_lit 662, q1118 P) :: (nat_lit 663, q1119 P) :: (nat_lit 664, q1120 P) :: (nat_lit 666, q1122 P) :: (nat_lit 667, q1123 P) :: (nat_lit 669, q1125 P) :: (nat_lit 670, q1126 P) :: (nat_lit 671, q1127 P) :: (nat_lit 672, q1128 P) :: (nat_lit 674, q1130 P) :: (nat_lit 675, q1131 P) :: (nat_lit 677, q1133 P) :: (nat_lit 678, q1134 P) :: (nat_lit 679, q1135 P) :: (nat_lit 680, q1136 P) :: (nat_lit 682, q1138 P) :: (nat_lit 683, q1139 P) :: (nat_lit 685, q1141 P) :: (nat_lit 686, q1142 P) :: (nat_lit 687, q1143 P) :: (nat_lit 689, q1145 P) :: (nat_lit 690, q1146 P) :: (nat_lit 692, q1148 P) :: (nat_lit 693, q1149 P) :: (nat_lit 694, q1150 P) :: (nat_lit 696, q1152 P) :: (nat_lit 697, q1153 P) :: (nat_lit 699, q1155 P) :: (nat_lit 700, q1156 P) :: (nat_lit 701, q1157 P) :: (nat_lit 703, q1159 P) :: (nat_lit 704, q1160 P) :: (nat_lit 706, q1162 P) :: (nat_lit 707, q1163 P) :: (nat_lit 708, q1164 P) :: (nat_lit 710, q1166 P) :: (nat_lit 711, q1167 P) :: (nat_lit 713, q1169 P) :: (nat_lit 714, q1170 P) :: (nat_lit 715, q1171 P) :: (nat_lit 716, q1172 P) :: (nat_lit 718, q1174 P) :: (nat_lit 719, q1175 P) :: (nat_lit 721, q1177 P) :: (nat_lit 722, q1178 P) :: (nat_lit 723, q1179 P) :: (nat_lit 725, q1181 P) :: (nat_lit 726, q1182 P) :: (nat_lit 728, q1184 P) :: (nat_lit 729, q1185 P) :: (nat_lit 730, q1186 P) :: (nat_lit 732, q1188 P) :: (nat_lit 733, q1189 P) :: (nat_lit 735, q1191 P) :: (nat_lit 736, q1192 P) :: (nat_lit 737, q1193 P) :: (nat_lit 738, q1194 P) :: (nat_lit 739, q1195 P) :: (nat_lit 740, q1196 P) :: (nat_lit 741, q1197 P) :: (nat_lit 744, q1280 P) :: (nat_lit 745, q1281 P) :: (nat_lit 747, q1283 P) :: (nat_lit 748, q1284 P) :: (nat_lit 750, q1286 P) :: (nat_lit 751, q1287 P) :: (nat_lit 752, q1288 P) :: (nat_lit 754, q1290 P) :: (nat_lit 755, q1291 P) :: (nat_lit 757, q1293 P) :: (nat_lit 758, q1294 P) :: (nat_lit 759, q1295 P) :: (nat_lit 760, q1296 P) :: (nat_lit 762, q1298 P) :: (nat_lit 763, q1299 P) :: (nat_lit 765, q1301 P) :: (nat_lit 766, q1302 P) :: (nat_lit 767, q1303 P) :: (nat_lit 769, q1305 P) :: (nat_lit 770, q1306 P) :: (nat_lit 772, q1308 P) :: (nat_lit 773, q1309 P) :: (nat_lit 774, q1310 P) :: (nat_lit 776, q1312 P) :: (nat_lit 777, q1313 P) :: (nat_lit 779, q1315 P) :: (nat_lit 780, q1316 P) :: (nat_lit 781, q1317 P) :: (nat_lit 783, q1319 P) :: (nat_lit 784, q1320 P) :: (nat_lit 786, q1322 P) :: (nat_lit 787, q1323 P) :: (nat_lit 788, q1324 P) :: (nat_lit 791, q1327 P) :: (nat_lit 792, q1328 P) :: (nat_lit 793, q1329 P) :: (nat_lit 796, q1332 P) :: (nat_lit 797, q1333 P) :: (nat_lit 798, q1334 P) :: (nat_lit 801, q1337 P) :: (nat_lit 802, q1338 P) :: (nat_lit 803, q1339 P) :: (nat_lit 805, q1341 P) :: (nat_lit 806, q1342 P) :: (nat_lit 808, q1344 P) :: (nat_lit 809, q1345 P) :: (nat_lit 810, q1346 P) :: (nat_lit 813, q1349 P) :: (nat_lit 814, q1350 P) :: []
noncomputable def kAdrs : List Nat := nat_lit 2 :: nat_lit 3 :: nat_lit 38 :: nat_lit 40 :: nat_lit 41 :: nat_lit 43 :: nat_lit 44 :: nat_lit 45 :: nat_lit 47 :: nat_lit 48 :: nat_lit 50 :: nat_lit 51 :: nat_lit 55 :: nat_lit 56 :: nat_lit 57 :: nat_lit 59 :: nat_lit 60 :: nat_lit 62 :: nat_lit 63 :: nat_lit 64 :: nat_lit 66 :: nat_lit 67 :: nat_lit 69 :: nat_lit 70 :: nat_lit 71 :: nat_lit 78 :: nat_lit 79 :: nat_lit 80 :: nat_lit 81 :: nat_lit 91 :: nat_lit 93 :: nat_lit 94 :: nat_lit 96 :: nat_lit 97 :: nat_lit 98 :: nat_lit 99 :: nat_lit 100 :: nat_lit 101 :: nat_lit 102 :: nat_lit 103 :: nat_lit 106 :: nat_lit 113 :: nat_lit 114 :: nat_lit 115 :: nat_lit 118 :: nat_lit 125 :: nat_lit 126 :: nat_lit 127 :: nat_lit 130 :: nat_lit 137 :: nat_lit 138 :: nat_lit 140 :: nat_lit 141 :: nat_lit 143 :: nat_lit 144 :: nat_lit 145 :: nat_lit 147 :: nat_lit 148 :: nat_lit 150 :: nat_lit 151 :: nat_lit 152 :: nat_lit 154 :: nat_lit 155 :: nat_lit 157 :: nat_lit 158 :: nat_lit 159 :: nat_lit 161 :: nat_lit 162 :: nat_lit 164 :: nat_lit 165 :: nat_lit 166 :: nat_lit 167 :: nat_lit 169 :: nat_lit 170 :: nat_lit 172 :: nat_lit 173 :: nat_lit 174 :: nat_lit 176 :: nat_lit 177 :: nat_lit 179 :: nat_lit 180 :: nat_lit 181 :: nat_lit 183 :: nat_lit 184 :: nat_lit 186 :: nat_lit 187 :: nat_lit 188 :: nat_lit 190 :: nat_lit 191 :: nat_lit 193 :: nat_lit 194 :: nat_lit 195 :: nat_lit 197 :: nat_lit 198 :: nat_lit 200 :: nat_lit 201 :: nat_lit 202 :: nat_lit 204 :: nat_lit 205 :: nat_lit 207 :: nat_lit 208 :: nat_lit 209 :: nat_lit 211 :: nat_lit 212 :: nat_lit 214 :: nat_lit 215 :: nat_lit 216 :: nat_lit 218 :: nat_lit 219 :: nat_lit 221 :: nat_lit 222 :: nat_lit 223 :: nat_lit 225 :: nat_lit 226 :: nat_lit 228 :: nat_lit 229 :: nat_lit 230 :: nat_lit 232 :: nat_lit 233 :: nat_lit 235 :: nat_lit 236 :: nat_lit 237 :: nat_lit 239 :: nat_lit 240 :: nat_lit 242 :: nat_lit 243 :: nat_lit 244 :: nat_lit 246 :: nat_lit 247 :: nat_lit 249 :: nat_lit 250 :: nat_lit 251 :: nat_lit 253 :: nat_lit 254 :: nat_lit 256 :: nat_lit 257 :: nat_lit 258 :: nat_lit 259 :: nat_lit 261 :: nat_lit 262 :: nat_lit 264 :: nat_lit 265 :: nat_lit 266 :: nat_lit 267 :: nat_lit 269 :: nat_lit 270 :: nat_lit 272 :: nat_lit 273 :: nat_lit 274 :: nat_lit 275 :: nat_lit 277 :: nat_lit 278 :: nat_lit 280 :: nat_lit 281 :: nat_lit 282 :: nat_lit 283 :: nat_lit 285 :: nat_lit 286 :: nat_lit 288 :: nat_lit 289 :: nat_lit 290 :: nat_lit 292 :: nat_lit 293 :: nat_lit 295 :: nat_lit 296 :: nat_lit 297 :: nat_lit 299 :: nat_lit 300 :: nat_lit 302 :: nat_lit 303 :: nat_lit 304 :: nat_lit 305 :: nat_lit 307 :: nat_lit 308 :: nat_lit 310 :: nat_lit 311 :: nat_lit 312 :: nat_lit 313 :: nat_lit 315 :: nat_lit 316 :: nat_lit 318 :: nat_lit 319 :: nat_lit 320 :: nat_lit 322 :: nat_lit 323 :: nat_lit 325 :: nat_lit 326 :: nat_lit 327 :: nat_lit 329 :: nat_lit 330 :: nat_lit 332 :: nat_lit 333 :: nat_lit 334 :: nat_lit 336 :: nat_lit 337 :: nat_lit 339 :: nat_lit 340 :: nat_lit 341 :: nat_lit 343 :: nat_lit 344 :: nat_lit 346 :: nat_lit 347 :: nat_lit 348 :: nat_lit 350 :: nat_lit 351 :: nat_lit 353 :: nat_lit 354 :: nat_lit 355 :: nat_lit 356 :: nat_lit 357 :: nat_lit 360 :: nat_lit 367 :: nat_lit 368 :: nat_lit 370 :: nat_lit 371 :: nat_lit 373 :: nat_lit 374 :: nat_lit 375 :: nat_lit 377 :: nat_lit 378 :: nat_lit 380 :: nat_lit 381 :: nat_lit 382 :: nat_lit 384 :: nat_lit 385 :: nat_lit 387 :: nat_lit 388 :: nat_lit 389 :: nat_lit 391 :: nat_lit 392 :: nat_lit 394 :: nat_lit 395 :: nat_lit 396 :: nat_lit 398 :: nat_lit 399 :: nat_lit 401 :: nat_lit 402 :: nat_lit 403 :: nat_lit 405 :: nat_lit 406 :: nat_lit 408 :: nat_lit 409 :: nat_lit 410 :: nat_lit 411 :: nat_lit 413 :: nat_lit 414 :: nat_lit 416 :: nat_lit 417 :: nat_lit 418 :: nat_lit 419 :: nat_lit 421 :: nat_lit 422 :: nat_lit 424 :: nat_lit 425 :: nat_lit 426 :: nat_lit 427 :: nat_lit 429 :: nat_lit 430 :: nat_lit 432 :: nat_lit 433 :: nat_lit 434 :: nat_lit 435 :: nat_lit 437 :: nat_lit 438 :: nat_lit 440 :: nat_lit 441 :: nat_lit 442 :: nat_lit 443 :: nat_lit 445 :: nat_lit 446 :: nat_lit 448 :: nat_lit 449 :: nat_lit 450 :: nat_lit 452 :: nat_lit 453 :: nat_lit 455 :: nat_lit 456 :: nat_lit 457 :: nat_lit 459 :: nat_lit 460 :: nat_lit 462 :: nat_lit 463 :: nat_lit 464 :: nat_lit 466 :: nat_lit 467 :: nat_lit 469 :: nat_lit 470 :: nat_lit 471 :: nat_lit 473 :: nat_lit 474 :: nat_lit 476 :: nat_lit 477 :: nat_lit 478 :: nat_lit 480 :: nat_lit 481 :: nat_lit 483 :: nat_lit 484 :: nat_lit 485 :: nat_lit 487 :: nat_lit 488 :: nat_lit 490 :: nat_lit 491 :: nat_lit 492 :: nat_lit 494 :: nat_lit 495 :: nat_lit 497 :: nat_lit 498 :: nat_lit 499 :: nat_lit 501 :: nat_lit 502 :: nat_lit 504 :: nat_lit 505 :: nat_lit 506 :: nat_lit 508 :: nat_lit 509 :: nat_lit 511 :: nat_lit 512 :: nat_lit 513 :: nat_lit 515 :: nat_lit 516 :: nat_lit 518 :: nat_lit 519 :: nat_lit 520 :: nat_lit 522 :: nat_lit 523 :: nat_lit 525 :: nat_lit 526 :: nat_lit 527 :: nat_lit 528 :: nat_lit 530 :: nat_lit 531 :: nat_lit 533 :: nat_lit 534 :: nat_lit 535 :: nat_lit 536 :: nat_lit 538 :: nat_lit 539 :: nat_lit 541 :: nat_lit 542 :: nat_lit 543 :: nat_lit 544 :: nat_lit 546 :: nat_lit 547 :: nat_lit 549 :: nat_lit 550 :: nat_lit 551 :: nat_lit 552 :: nat_lit 554 :: nat_lit 555 :: nat_lit 557 :: nat_lit 558 :: nat_lit 559 :: nat_lit 560 :: nat_lit 562 :: nat_lit 563 :: nat_lit 565 :: nat_lit 566 :: nat_lit 567 :: nat_lit 569 :: nat_lit 570 :: nat_lit 572 :: nat_lit 573 :: nat_lit 574 :: nat_lit 576 :: nat_lit 577 :: nat_lit 579 :: nat_lit 580 :: nat_lit 581 :: nat_lit 583 :: nat_lit 584 :: nat_lit 586 :: nat_lit 587 :: nat_lit 588 :: nat_lit 590 :: nat_lit 591 :: nat_lit 593 :: nat_lit 594 :: nat_lit 595 :: nat_lit 597 :: nat_lit 598 :: nat_lit 600 :: nat_lit 601 :: nat_lit 602 :: nat_lit 603 :: nat_lit 604 :: nat_lit 607 :: nat_lit 609 :: nat_lit 610 :: nat_lit 612 :: nat_lit 613 :: nat_lit 614 :: nat_lit 616 :: nat_lit 617 :: nat_lit 619 :: nat_lit 620 :: nat_lit 621 :: nat_lit 623 :: nat_lit 624 :: nat_lit 626 :: nat_lit 627 :: nat_lit 628 :: nat_lit 630 :: nat_lit 631 :: nat_lit 633 :: nat_lit 634 :: nat_lit 635 :: nat_lit 637 :: nat_lit 638 :: nat_lit 640 :: nat_lit 641 :: nat_lit 642 :: nat_lit 644 :: nat_lit 645 :: nat_lit 647 :: nat_lit 648 :: nat_lit 656 :: nat_lit 657 :: nat_lit 659 :: nat_lit 660 :: nat_lit 662 :: nat_lit 663 :: nat_lit 664 :: nat_lit 666 :: nat_lit 667 :: nat_lit 669 :: nat_lit 670 :: nat_lit 671 :: nat_lit 672 :: nat_lit 674 :: nat_lit 675 :: nat_lit 677 :: nat_lit 678 :: nat_lit 679 :: nat_lit 680 :: nat_lit 682 :: nat_lit 683 :: nat_lit 685 :: nat_lit 686 :: nat_lit 687 :: nat_lit 689 :: nat_lit 690 :: nat_lit 692 :: nat_lit 693 :: nat_lit 694 :: nat_lit 696 :: nat_lit 697 :: nat_lit 699 :: nat_lit 700 :: nat_lit 701 :: nat_lit 703 :: nat_lit 704 :: nat_lit 706 :: nat_lit 707 :: nat_lit 708 :: nat_lit 710 :: nat_lit 711 :: nat_lit 713 :: nat_lit 714 :: nat_lit 715 :: nat_lit 716 :: nat_lit 718 :: nat_lit 719 :: nat_lit 721 :: nat_lit 722 :: nat_lit 723 :: nat_lit 725 :: nat_lit 726 :: nat_lit 728 :: nat_lit 729 :: nat_lit 730 :: nat_lit 732 :: nat_lit 733 :: nat_lit 735 :: nat_lit 736 :: nat_lit 737 :: nat_lit 738 :: nat_lit 739 :: nat_lit 740 :: nat_lit 741 :: nat_lit 744 :: nat_lit 745 :: nat_lit 747 :: nat_lit 748 :: nat_lit 750 :: nat_lit 751 :: nat_lit 752 :: nat_lit 754 :: nat_lit 755 :: nat_lit 757 :: nat_lit 758 :: nat_lit 759 :: nat_lit 760 :: nat_lit 762 :: nat_lit 763 :: nat_lit 765 :: nat_lit 766 :: nat_lit 767 :: nat_lit 769 :: nat_lit 770 :: nat_lit 772 :: nat_lit 773 :: nat_lit 774 :: nat_lit 776 :: nat_lit 777 :: nat_lit 779 :: nat_lit 780 :: nat_lit 781 :: nat_lit 783 :: nat_lit 784 :: nat_lit 786 :: nat_lit 787 :: nat_lit 788 :: nat_lit 791 :: nat_lit 792 :: nat_lit 793 :: nat_lit 796 :: nat_lit 797 :: nat_lit 798 :: nat_lit 801 :: nat_lit 802 :: nat_lit 803 :: nat_lit 805 :: nat_lit 806 :: nat_lit 808 :: nat_lit 809 :: nat_lit 810 :: nat_lit 813 :: nat_lit 814 :: []
noncomputable abbrev pp : Program := PySem.Challenge.rw_mj0255_01.row.toRowW.prog
noncomputable def vw : Program := view PySem.Challenge.pw_mj0255_01 [0, 1, 2, 4, 5, 7, 8, 9, 10, 11, 12, 13, 14, 16, 17, 18, 19, 21, 22, 24, 26, 27, 28, 29, 31, 32, 33, 34, 35, 36, 37, 38]
noncomputable def hLoose : List Str := ["_twin_re_1", "UnsupportedOperation", "IOBase", "BufferedIOBase", "TextIOBase", "BytesIO", "StringIO", "join_path", "shlex", "split", "join_shlex", "_find_unsafe"]
noncomputable def evE : Env := { scope := pp.main.scope, locals := mainNs, globals := mainNs, cells := [], code := .ref 36, frame := some 37 }
noncomputable abbrev bdE : List Stmt := behindTheImports pp
noncomputable abbrev cdE : Code := .body bdE evE
theorem adrs : ∀ P, kAdrs = (kFrag P).map (·.1) := fun P => by kernel_rfl
noncomputable def hook : Hook := kHook kFrag kAdrs adrs
noncomputable def seenX (s : Shared) : Bool := xlAt vw [] s && recOk (RowW.records PySem.Challenge.rw_mj0255_01.row.toRowW) s
end
section
open PySem PySem.W PyProof.Rows
set_option maxRecDepth 1000000
set_option maxHeartbeats 0
noncomputable abbrev ps0 : Pos := ⟨0, 0, 0, 0⟩
noncomputable abbrev psF : Pos := ⟨789, 0, 806, 68⟩
theorem opens : ∀ w : World, (fencedOpening treeTable pp w 10478).map (fun s => (s.heap, s.gens, s.drawn, s.toks)) = some (h74 w.params, #[], {}, 318) := fun w => by kernel_rfl
theorem sizes : ∀ w : World, ((h74 w.params).isNs mainGlobals && (#[] : Array GenState).size == 0, (h74 w.params).objs.size, (h74 w.params).nsMap mainGlobals "__annotations__") = (true, 34, some (.ref 6)) := fun w => by kernel_rfl
theorem run1 : ∀ w : World, (fun os => topGo treeTable pp w 34 (some (.ref 6)) 12 ⟨h74 w.params, #[], {}, 318, os⟩ (topStub pp)) = fun os => some (⟨h78 w.params, #[], {}, 324, os⟩, ⟨denote treeTable cdE, cdE, ps0, [topFrame ps0]⟩) := fun w => by kernel_rfl
theorem run2 : ∀ w : World, (fun os => segRun treeTable pp w 34 (some (.ref 6)) 1 1 ⟨h78 w.params, #[], {}, 324, os⟩ (blockOf bdE evE cdE ps0 [topFrame ps0])) = fun os => some (.next, SharedT.abs ⟨t79 w.params, 38, {}, #[], {}, 324, os⟩, cdE, ps0) := fun w => by kernel_rfl
theorem seg1 : ∀ w : World, (fun os => segRunT treeTable pp w 34 (some (.ref 6)) 1 1118 ⟨t79 w.params, 38, {}, #[], {}, 324, os⟩ (piecesOf ((bdE.drop 0).take 11) evE cdE ps0 [topFrame ps0])) = fun os => some (.next, ⟨t185 w.params, 130, {}, #[], {}, 489, os⟩, cdE, ⟨37, 0, 38, 21⟩) := fun w => by kernel_rfl
theorem seg2 : ∀ w : World, (fun os => segRunT treeTable pp w 34 (some (.ref 6)) 1 1278 ⟨t185 w.params, 130, {}, #[], {}, 489, os⟩ (piecesOf ((bdE.drop 11).take 1) evE cdE ⟨37, 0, 38, 21⟩ [topFrame ps0])) = fun os => some (.next, ⟨t418 w.params, 360, {}, #[], {}, 751, os⟩, cdE, ⟨39, 0, 208, 17⟩) := fun w => by kernel_rfl
theorem seg3 : ∀ w : World, (fun os => segRunT treeTable pp w 34 (some (.ref 6)) 1 1578 ⟨t418 w.params, 360, {}, #[], {}, 751, os⟩ (piecesOf ((bdE.drop 12).take 1) evE cdE ⟨39, 0, 208, 17⟩ [topFrame ps0])) = fun os => some (.next, ⟨t838 w.params, 607, {}, #[], {}, 1038, os⟩, cdE, ⟨209, 0, 413, 17⟩) := fun w => by kernel_rfl
theorem seg4 : ∀ w : World, (fun os => segRunT treeTable pp w 34 (some (.ref 6)) 1 217 ⟨t838 w.params, 607, {}, #[], {}, 1038, os⟩ (piecesOf ((bdE.drop 13).take 9) evE cdE ⟨209, 0, 413, 17⟩ [topFrame ps0])) = fun os => some (.next, ⟨t1102 w.params, 649, {}, #[], {}, 1099, os⟩, cdE, ⟨478, 0, 478, 8⟩) := fun w => by kernel_rfl
theorem seg5 : ∀ w : World, (fun os => segRunT treeTable pp w 34 (some (.ref 6)) 1 995 ⟨t1102 w.params, 649, {}, #[], {}, 1099, os⟩ (piecesOf ((bdE.drop 22).take 15) evE cdE ⟨478, 0, 478, 8⟩ [topFrame ps0])) = fun os => some (.next, ⟨tFin w.params, 815, {}, #[], {}, 1323, os⟩, cdE, psF) := fun w => by kernel_rfl
theorem run4 : ∀ w : World, (fun os => topRun treeTable pp w 34 (some (.ref 6)) 2 (SharedT.abs ⟨tFin w.params, 815, {}, #[], {}, 1323, os⟩) ⟨doneF .next, cdE, psF, [topFrame ps0]⟩) = fun os => some ⟨hFin w.params, #[], {}, 1323, os⟩ := fun w => by kernel_rfl
theorem looks1 : ∀ w : World, (fun os => (staticsOk (importedModules pp.main.body) (h74 w.params) (hFin w.params) && namesBound pp (hFin w.params) && gensDone ⟨hFin w.params, #[], {}, 1323, os⟩ && laidKept (h74 w.params) (hFin w.params))) = fun (_ : OsState) => true := fun w => by kernel_rfl
theorem looks2 : ∀ w : World, (fun os => openSeen vw hLoose (importedModules pp.main.body) seenX true ⟨hFin w.params, #[], {}, 1323, os⟩) = fun (_ : OsState) => openGood vw hLoose := fun w => by kernel_rfl
noncomputable def pick : List Obj → Nat → List Nat → Option (List (Option Obj))
  | _, _, [] => some []
  | [], _, _ :: _ => none
  | o :: r, i, a :: as => match Nat.beq a i with
    | true => (pick r (i + 1) as).map (some o :: ·)
    | false => pick r (i + 1) (a :: as)
theorem pick_spec : ∀ (os : List Obj) (i : Nat) (as : List Nat) (l : List (Option Obj)), pick os i as = some l → l = as.map (fun a => os[a - i]?) ∧ ∀ a ∈ as, i ≤ a
  | [], i, [], l, h => by simp only [pick, Option.some.injEq] at h; subst h; exact ⟨rfl, nofun⟩
  | o :: r, i, [], l, h => by simp only [pick, Option.some.injEq] at h; subst h; exact ⟨rfl, nofun⟩
  | [], i, a :: as, l, h => by simp [pick] at h
  | o :: r, i, a :: as, l, h => by
    have up : ∀ {bs : List Nat}, (∀ b ∈ bs, i + 1 ≤ b) → bs.map (fun b => r[b - (i + 1)]?) = bs.map (fun b => (o :: r)[b - i]?) := fun {bs} hb => List.map_congr_left fun b m => by
      have := hb b m
      rw [show b - i = (b - (i + 1)) + 1 by omega, List.getElem?_cons_succ]
    unfold pick at h
    cases e : Nat.beq a i with
    | true =>
      rw [e] at h
      obtain ⟨l', h', rfl⟩ := Option.map_eq_some_iff.mp h
      obtain ⟨e1, e2⟩ := pick_spec r (i + 1) as l' h'
      have ea : a = i := Nat.eq_of_beq_eq_true e
      subst ea
      refine ⟨?_, fun b m => ?_⟩
      · rw [e1, up e2, List.map_cons, Nat.sub_self]; rfl
      · rcases List.mem_cons.mp m with rfl | m
        · exact Nat.le_refl _
        · exact Nat.le_of_succ_le (e2 b m)
    | false =>
      rw [e] at h
      obtain ⟨e1, e2⟩ := pick_spec r (i + 1) (a :: as) l h
      exact ⟨e1.trans (up e2), fun b m => Nat.le_of_succ_le (e2 b m)⟩
noncomputable def nf : Option Obj → Option Obj
  | some ⟨_, _, .freed, _⟩ => none
  | o => o
theorem get_nf (l : List Obj) (life : Life) (a : Nat) : (⟨⟨l⟩, life⟩ : Heap).get? a = nf l[a]? := by
  unfold Heap.get?
  rw [show (⟨l⟩ : Array Obj)[a]? = l[a]? from by simp]
  cases l[a]? with
  | none => rfl
  | some o => obtain ⟨c, d, x, s⟩ := o; cases x <;> rfl
theorem obs_of {h : Heap} {as : List Nat} {r r' : List (Option Obj)} (e0 : pick h.objs.toList 0 as = some r) (e : r.map nf = r') : as.map h.get? = r' := by
  obtain ⟨⟨l⟩, life⟩ := h
  rw [← e, (pick_spec l 0 as r e0).1, List.map_map]
  exact List.map_congr_left fun a _ => (get_nf l life a).trans rfl
theorem picked : ∀ P, pick (hFin P).objs.toList 0 kAdrs = some ((kFrag P).map fun p => some p.2) := fun P => by kernel_rfl
theorem nfs : ∀ P, ((kFrag P).map fun p => some p.2).map nf = (kFrag P).map fun p => some p.2 := fun P => by kernel_rfl
theorem looks3 : ∀ w : World, (fun os => hook.obs ⟨hFin w.params, #[], {}, 1323, os⟩) = fun (_ : OsState) => hook.val w := fun w => funext fun os => obs_of (h := hFin w.params) (picked w.params) (nfs w.params)
noncomputable abbrev lw : OpenLaw := PySem.Challenge.rw_mj0255_01
theorem sA1 : sreFenced lw.row.prog.main = true := by kernel_rfl
theorem sA2 : ((moduleNames lw.row.prog.main.body).isEmpty || lookedIntoSs (moduleNames lw.row.prog.main.body) lw.row.prog.main.body) = true := by kernel_rfl
theorem sA3 : namesResolve lw.row.prog = true := by kernel_rfl
theorem sA4 : lw.row.prog.boundNames.all (fun n => !worldNames.contains n) = true := by kernel_rfl
theorem sA5 : noRoadLSs { strict := !(importedModules lw.row.prog.main.body).all cThrough.contains, foot := none, bare := (["vars", "dir", "locals"] : List Str).filter (readsOut lw.row.prog lw.row.prog.main.body) } lw.row.prog.main.body = true := by kernel_rfl
theorem sA6 : namesMeet lw.row.prog lw.row.prog.main.body (fun _ n => attrL n) = true := by kernel_rfl
theorem sA : looksOpen lw.row.prog = true := by
  unfold looksOpen
  refine look_both (look_both (look_both (look_both (look_both ?_ ?_) ?_) ?_) ?_) ?_
  · with_reducible exact sA1
  · with_reducible exact sA2
  · with_reducible exact sA3
  · with_reducible exact sA4
  · with_reducible exact sA5
  · with_reducible exact sA6
theorem sB : lw.row.partSaid = true := by
  unfold OpenRow.partSaid
  repeat' (first | with_reducible exact sA | with_reducible refine look_both ?_ ?_)
  all_goals kernel_rfl
theorem sC : lw.row.wellSaid = true := by
  unfold OpenRow.wellSaid
  repeat' (first | with_reducible exact sB | with_reducible refine look_both ?_ ?_)
  all_goals kernel_rfl
theorem said : PySem.Challenge.rw_mj0255_01.wellSaid = true := by
  show lw.wellSaid = true
  unfold OpenLaw.wellSaid
  repeat' (first | with_reducible exact sC | with_reducible refine look_both ?_ ?_)
  all_goals kernel_rfl
theorem chain {tb : String → Option Builtin} {p : Program} {w : World} {n₀ : Nat} {ann : Option Value} {env : Env} {q : Pos} {n1 n2 m1 m2 m3 m4 m5 n4 : Nat} {s sa : Shared} {s0 s1 s2 s3 s4 s5 : SharedT} {r : Shared} {t : Thread} {b : List Stmt} {p0 p1 p2 p3 p4 p5 p6 : Pos}
    (h1 : topGo tb p w n₀ ann n1 s t = some (sa, ⟨denote tb (.body b env), .body b env, p0, [topFrame q]⟩))
    (h2 : segRun tb p w n₀ ann 1 n2 sa (blockOf b env (.body b env) p0 [topFrame q]) = some (.next, s0.abs, .body b env, p1))
    {k1 k2 k3 k4 k5 : Nat} {c1 c2 c3 c4 : Nat}
    (g1 : segRunT tb p w n₀ ann 1 m1 s0 (piecesOf ((b.drop 0).take k1) env (.body b env) p1 [topFrame q]) = some (.next, s1, .body b env, p2))
    (g2 : segRunT tb p w n₀ ann 1 m2 s1 (piecesOf ((b.drop c1).take k2) env (.body b env) p2 [topFrame q]) = some (.next, s2, .body b env, p3))
    (g3 : segRunT tb p w n₀ ann 1 m3 s2 (piecesOf ((b.drop c2).take k3) env (.body b env) p3 [topFrame q]) = some (.next, s3, .body b env, p4))
    (g4 : segRunT tb p w n₀ ann 1 m4 s3 (piecesOf ((b.drop c3).take k4) env (.body b env) p4 [topFrame q]) = some (.next, s4, .body b env, p5))
    (g5 : segRunT tb p w n₀ ann 1 m5 s4 (piecesOf ((b.drop c4).take k5) env (.body b env) p5 [topFrame q]) = some (.next, s5, .body b env, p6))
    (e : b = (b.drop 0).take k1 ++ ((b.drop c1).take k2 ++ ((b.drop c2).take k3 ++ ((b.drop c3).take k4 ++ ((b.drop c4).take k5 ++ [])))))
    (h4 : topRun tb p w n₀ ann n4 s5.abs ⟨doneF .next, .body b env, p6, [topFrame q]⟩ = some r) : topRun tb p w n₀ ann (n1 + (n2 + (m1 + (m2 + (m3 + (m4 + (m5 + n4))))))) s t = some r := by
  refine go_top h1 (piece_block h2 ?_)
  have := piece_app (segRun_of g1) (piece_app (segRun_of g2) (piece_app (segRun_of g3) (piece_app (segRun_of g4) (piece_app (segRun_of g5) (piece_nil h4)))))
  rw [← e] at this
  exact this
theorem eB : bdE = (bdE.drop 0).take 11 ++ ((bdE.drop 11).take 1 ++ ((bdE.drop 12).take 1 ++ ((bdE.drop 13).take 9 ++ ((bdE.drop 22).take 15 ++ [])))) := by kernel_rfl
theorem runs (w : World) (os : OsState) : topRun treeTable pp w 34 (some (.ref 6)) (12 + (1 + (1118 + (1278 + (1578 + (217 + (995 + 2))))))) ⟨h74 w.params, #[], {}, 318, os⟩ (topStub pp) = some ⟨hFin w.params, #[], {}, 1323, os⟩ :=
  chain (congrFun (run1 w) os) (congrFun (run2 w) os) (congrFun (seg1 w) os) (congrFun (seg2 w) os) (congrFun (seg3 w) os) (congrFun (seg4 w) os) (congrFun (seg5 w) os) eB (congrFun (run4 w) os)
theorem looks (w : World) : (fun os => ((staticsOk (importedModules pp.main.body) (h74 w.params) (hFin w.params) && namesBound pp (hFin w.params) && gensDone ⟨hFin w.params, #[], {}, 1323, os⟩ && laidKept (h74 w.params) (hFin w.params)),
    openSeen vw hLoose (importedModules pp.main.body) seenX true ⟨hFin w.params, #[], {}, 1323, os⟩, hook.obs ⟨hFin w.params, #[], {}, 1323, os⟩)) = fun (_ : OsState) => (true, openGood vw hLoose, hook.val w) :=
  funext fun os => looks_pair (congrFun (looks1 w) os) (looks_pair (congrFun (looks2 w) os) (congrFun (looks3 w) os))
theorem left : LeftO pp vw hLoose seenX hook.obs hook.val 10478 := LeftO.of_pieces opens sizes runs rfl looks
end
section
open PySem PySem.W PySem.Calls PyProof.Rows
set_option maxRecDepth 100000
set_option maxHeartbeats 0
section
variable {prog : Program} {w : World} {A : Around} {s : Shared} {K : Frag} {R : Result → Shared → Prop} {name qual : Str} {params : Arguments} {body : List Stmt} {scope : Scope} {dV kV doc pm cdv ct oc : Value} {an od : Option Addr} {osl : Array (Option Value)} {f : Addr} {args : Args} {binds : List (Str × Value)}

theorem enter0 (X : K.In s.heap) (hlim : s.heap.NoLimit)
    (ho : K.lookup f = some ⟨oc, od, .func (fnOf name qual params body scope dV kV doc pm an cdv ct), osl⟩) (hcd : codeIn K cdv qual = true) (hroom : A.depth < recursionLimit)
    (hbind : BindsTo s (fnOf name qual params body scope dV kV doc pm an cdv ct) args binds) (hloc : ∀ y ∈ binds, scope.names.lookup y.1 = some .local)
    (h : ∀ h₁, Fr s.heap s.heap.objs.size h₁ (fun y => binds.reverse.lookup y) → News s.heap s.heap.objs.size h₁ [] →
      wpAny (model prog w) (A.deeper (envOf qual scope s.heap.objs.size f cdv)) (execs body (envOf qual scope s.heap.objs.size f cdv))
        (fun fl s' => R (.ok (.ret (match fl with | .ret v => v | _ => .none))) s')
        (fun e s' => wpAny (model prog w) (A.deeper (envOf qual scope s.heap.objs.size f cdv)) (leaving (envOf qual scope s.heap.objs.size f cdv) e) (fun _ s'' => R (.error e) s'') (fun e' s'' => R (.error e') s'') s')
        { s with heap := h₁, toks := s.toks + binds.length })
    (hco : scope.isCoroutine = false) (hgen : scope.isGenerator = false) (hk : scope.kind = .function)
    (hcell : ∀ x ∈ scope.names, x.2 ≠ .cell) : codeAny (model prog w) A (.call (.ref f) args) R s :=
  codeAny_call_def (fd := fnOf name qual params body scope dV kV doc pm an cdv ct) (body := body) (binds := binds) hroom (X _ _ ho) rfl hlim (codeRec_of X hcd) rfl hbind hcell hloc
    (fun h₁ hns hk₁ => h h₁ ⟨hns, hk₁, Nat.le_refl _⟩ News.nil) hco hgen hk

theorem enterC (X : K.In s.heap) (hlim : s.heap.NoLimit)
    (ho : K.lookup f = some ⟨oc, od, .func (fnOf name qual params body scope dV kV doc pm an cdv ct), osl⟩) (hcd : codeIn K cdv qual = true) (hroom : A.depth < recursionLimit)
    (hbind : BindsTo s (fnOf name qual params body scope dV kV doc pm an cdv ct) args binds) (hkind : (binds.all fun y => scope.names.lookup y.1 == some .local || scope.names.lookup y.1 == some .cell) = true)
    (hnd : ((cellsFrom 0 scope.names []).map (·.1)).Nodup)
    (h : ∀ h₁ tk cells, Fr s.heap s.heap.objs.size h₁ (bindL (envOfC qual scope s.heap.objs.size f cdv).kindOf binds fun _ => none) → News s.heap s.heap.objs.size h₁ cells →
      CellsAre (bindC (envOfC qual scope s.heap.objs.size f cdv).kindOf binds fun _ => none) (cellsFrom (s.heap.objs.size + 1) scope.names []) cells →
      wpAny (model prog w) (A.deeper (envOfC qual scope s.heap.objs.size f cdv)) (execs body (envOfC qual scope s.heap.objs.size f cdv))
        (fun fl s' => R (.ok (.ret (match fl with | .ret v => v | _ => .none))) s')
        (fun e s' => wpAny (model prog w) (A.deeper (envOfC qual scope s.heap.objs.size f cdv)) (leaving (envOfC qual scope s.heap.objs.size f cdv) e) (fun _ s'' => R (.error e) s'') (fun e' s'' => R (.error e') s'') s')
        { s with heap := h₁, toks := tk })
    (hco : scope.isCoroutine = false) (hgen : scope.isGenerator = false) (hk : scope.kind = .function) : codeAny (model prog w) A (.call (.ref f) args) R s := by
  refine codeAny_call_function hroom (X _ _ ho) rfl hco hgen rfl (codeRec_of X hcd) (hbind _ _ _ _ ?_)
  refine wpAny_newFunctionEnv_cells hk (kindsX hkind _) fun env' he s' x => ?_
  subst he
  refine ⟨hlim.keeps x.toInCall.keep, codeAny_func ?_⟩
  obtain ⟨h₁, tk, rfl, _⟩ := x.done
  have hk₁ := x.toInCall.keep
  obtain ⟨cells, NC, Y⟩ := Cl.news (h₀ := s.heap) (Nat.le_refl _) fun n c hm => ⟨x.cell n c (lookup_of_mem_nodup (cellsFrom_names scope.names 0 (s.heap.objs.size + 1) [] [] rfl ▸ hnd) hm), x.above n c hm⟩
  exact h h₁ tk cells ⟨x.toInCall.ns, hk₁, Nat.le_refl _⟩ (fun p hp => NC p hp) Y
end
end
section
open PySem PySem.W PySem.Calls PySem.Spec PyProof.Rows
set_option maxRecDepth 100000
set_option maxHeartbeats 0
theorem keepsOf {s : Shared} {h₀ h' : Heap} {L : Addr} {m : Str → Option Value} {tk : Nat} (F : Fr h₀ L h' m) (e : h₀ = s.heap) : Keeps s { s with heap := h', toks := tk } :=
  ⟨h', tk, rfl, fun b o x => F.keep b o (e ▸ x)⟩
theorem strsAre_of_carried {α : Type} {f : α → Str} : ∀ {vs : List Value} {as : List α}, CarriedAll vs (as.map fun a => PyData.str (f a)) → StrsAre vs (as.map f)
  | _, [], .nil => .nil
  | _, _ :: _, .cons (.str _ t) r => .cons _ t (strsAre_of_carried r)

def SignsSrc (prog : Program) (w : World) (A : Around) (env : Env) (scope : Scope) (cl : List (Str × Addr)) (x : Str) (ifs : List Expr) (elt : Expr) (pz : Str → Bool) (f : Str → Str) (Q : Value → Shared → Prop) (xv : Value) (s₁ : Shared) : Prop :=
  ∃ y t, xv = .str y t ∧ y.length ≤ sizeLine ∧
      (∀ C a t s₂ m₂ E', a ∈ signs y → s₂.heap.Ns C m₂ → m₂ x = some (.str a t) → (∀ b o, s₁.heap.get? b = some o → s₂.heap.get? b = some o) → s₁.toks ≤ s₂.toks →
        wpAny (model prog w) A (forIn ifs true fun c r => if r = true then do let ok ← isTrue c (compEnvC scope cl C env) (eval c (compEnvC scope cl C env)); pure (ForInStep.yield ok) else pure (ForInStep.yield r))
          (fun ok s₃ => ok = pz a ∧ Keeps s₂ s₃) E' s₂) ∧
      (∀ C a t s₂ m₂ E', a ∈ signs y → pz a = true → s₂.heap.Ns C m₂ → m₂ x = some (.str a t) → (∀ b o, s₁.heap.get? b = some o → s₂.heap.get? b = some o) → s₁.toks ≤ s₂.toks →
        wpAny (model prog w) A (eval elt (compEnvC scope cl C env)) (fun r s₃ => (∃ t', r = .str (f a) t') ∧ Keeps s₂ s₃) E' s₂) ∧
      (∀ D (ys : List Value) h' tk, (∀ b o, s₁.heap.get? b = some o → h'.get? b = some o) → s₁.heap.get? D = none → h'.PlainList D ys.toArray → StrsAre ys (((signs y).filter pz).map f) → Q (.ref D) { s₁ with heap := h', toks := tk })
def StrsSrc (prog : Program) (w : World) (A : Around) (env : Env) (scope : Scope) (cl : List (Str × Addr)) (x : Str) (ifs : List Expr) (elt : Expr) (pz : Str → Bool) (f : Str → Str) (Q : Value → Shared → Prop) (xv : Value) (s₁ : Shared) : Prop :=
  ∃ ax vs as, xv = .ref ax ∧ s₁.heap.IsList ax vs.toArray ∧ AreOf ItemKind.str vs as ∧ as.length ≤ sizeLine ∧
      (∀ C a t s₂ m₂ E', a ∈ as → s₂.heap.Ns C m₂ → m₂ x = some (.str a t) → (∀ b o, s₁.heap.get? b = some o → s₂.heap.get? b = some o) → s₁.toks ≤ s₂.toks →
        wpAny (model prog w) A (forIn ifs true fun c r => if r = true then do let ok ← isTrue c (compEnvC scope cl C env) (eval c (compEnvC scope cl C env)); pure (ForInStep.yield ok) else pure (ForInStep.yield r))
          (fun ok s₃ => ok = pz a ∧ Keeps s₂ s₃) E' s₂) ∧
      (∀ C a t s₂ m₂ E', a ∈ as → pz a = true → s₂.heap.Ns C m₂ → m₂ x = some (.str a t) → (∀ b o, s₁.heap.get? b = some o → s₂.heap.get? b = some o) → s₁.toks ≤ s₂.toks →
        wpAny (model prog w) A (eval elt (compEnvC scope cl C env)) (fun r s₃ => (∃ t', r = .str (f a) t') ∧ Keeps s₂ s₃) E' s₂) ∧
      (∀ D (ys : List Value) h' tk, (∀ b o, s₁.heap.get? b = some o → h'.get? b = some o) → s₁.heap.get? D = none → h'.PlainList D ys.toArray → StrsAre ys ((as.filter pz).map f) → Q (.ref D) { s₁ with heap := h', toks := tk })
section
variable {prog : Program} {w : World} {A : Around} {E : Value → Shared → Prop} {s : Shared} {env : Env}

theorem comp_signs {elt iter : Expr} {x : Str} {px : Pos} {ifs : List Expr} {scope : Scope} {cl : List (Str × Addr)} {pos : Pos} {Q : Value → Shared → Prop} (pz : Str → Bool) (f : Str → Str)
    (hh : A.handled = none) (hclos : closureFor scope env = pure cl) (hcell : ∀ y ∈ scope.names, y.2 ≠ .cell) (hkind : scope.kind = .function)
    (hnames : ∀ y ∈ scope.names, y.2 = .local → scope.names.lookup y.1 = some .local) (hx : scope.names.lookup x = some .local)
    (h : wpAny (model prog w) A (eval iter env) (SignsSrc prog w A env scope cl x ifs elt pz f Q) E s)
    (hs : ∀ x, foldedSetIterable iter env x = pure x) :
    wpAny (model prog w) A (eval (.ListComp elt [⟨.Name x px, iter, ifs, 0⟩] scope pos) env) Q E s := by
  refine wpAny_ListComp_free (ItemKind.str.lift pz) (fun v r => ∃ a, ItemKind.str.is a v ∧ Carried r (PyData.str (f a))) hclos hcell hkind hnames hx (wpAny_mono h (fun xv s₁ h₁ => ?_) fun _ _ e => e) hs
  obtain ⟨y, t, rfl, hsz, htests, helt, hQ⟩ := h₁
  refine wpAny_pyIter_str fun o St W hst => ?_
  have up : ∀ (h' : Heap), (∀ b o', b ∉ [s₁.heap.objs.size] → (s₁.heap.push o).get? b = some o' → h'.get? b = some o') → ∀ b o', s₁.heap.get? b = some o' → h'.get? b = some o' :=
    fun h' hk b o' e => hk b o' (old_not_new e) (Heap.get?_push_of_some _ e)
  refine ⟨s₁.heap.objs.size, [s₁.heap.objs.size], [s₁.heap.objs.size], y.cps.size, SignAt y, St, rfl, W A hh, hsz, hst, ?_, ⟨?_, ?_⟩, ?_⟩
  · intro b hb
    show b < (s₁.heap.push o).objs.size
    rw [Heap.size_push, List.mem_singleton.mp hb]
    exact Nat.lt_succ_self _
  · intro C i v s₃ m₃ E' _ hP hn hm hk htk
    obtain ⟨c, u, hc, rfl⟩ := hP
    have ha : ItemKind.str.is ⟨#[c]⟩ (.str ⟨#[c]⟩ u) := ⟨u, rfl⟩
    rw [ItemKind.lift_is ha]
    exact htests C _ u s₃ m₃ E' (List.mem_of_getElem? (i := i) (by simp [signs, hc])) hn hm (up _ hk) htk
  · intro C i v s₃ m₃ E' _ hP hp hn hm hk htk
    obtain ⟨c, u, hc, rfl⟩ := hP
    have ha : ItemKind.str.is ⟨#[c]⟩ (.str ⟨#[c]⟩ u) := ⟨u, rfl⟩
    rw [ItemKind.lift_is ha] at hp
    refine wpAny_mono (helt C _ u s₃ m₃ E' (List.mem_of_getElem? (i := i) (by simp [signs, hc])) hp hn hm (up _ hk) htk) (fun r s₄ h₄ => ⟨⟨_, ha, ?_⟩, h₄.2⟩) fun _ _ e => e
    obtain ⟨⟨t', rfl⟩, _⟩ := h₄
    exact .str _ t'
  · intro D h' tk ys vs hnew hlD hplD hlen hP hF hk
    refine hQ D ys.toList h' tk (up h' hk) ?_ (by rw [Array.toArray_toList]; exact hplD) (strsAre_of_carried ?_)
    · cases e : s₁.heap.get? D with
      | none => rfl
      | some o' => rw [Heap.get?_push_of_some _ e] at hnew; cases hnew
    · exact ((areOf_signs hlen hP).paired pz (fun a => PyData.str (f a)) _ hF)

theorem comp_strs {elt iter : Expr} {x : Str} {px : Pos} {ifs : List Expr} {scope : Scope} {cl : List (Str × Addr)} {pos : Pos} {Q : Value → Shared → Prop} (pz : Str → Bool) (f : Str → Str)
    (hh : A.handled = none) (hclos : closureFor scope env = pure cl) (hcell : ∀ y ∈ scope.names, y.2 ≠ .cell) (hkind : scope.kind = .function)
    (hnames : ∀ y ∈ scope.names, y.2 = .local → scope.names.lookup y.1 = some .local) (hx : scope.names.lookup x = some .local)
    (h : wpAny (model prog w) A (eval iter env) (StrsSrc prog w A env scope cl x ifs elt pz f Q) E s)
    (hs : ∀ x, foldedSetIterable iter env x = pure x) :
    wpAny (model prog w) A (eval (.ListComp elt [⟨.Name x px, iter, ifs, 0⟩] scope pos) env) Q E s := by
  refine wpAny_ListComp_free (ItemKind.str.lift pz) (fun v r => ∃ a, ItemKind.str.is a v ∧ Carried r (PyData.str (f a))) hclos hcell hkind hnames hx (wpAny_mono h (fun xv s₁ h₁ => ?_) fun _ _ e => e) hs
  obtain ⟨ax, vs, as, rfl, hl, hi, hsz, htests, helt, hQ⟩ := h₁
  have hlt : ax < s₁.heap.objs.size := by obtain ⟨_, e, _⟩ := hl; exact Heap.lt_size e
  have up : ∀ (h' : Heap), (∀ b o, b ∉ [s₁.heap.objs.size] → (s₁.heap.push { cls := .type "list_iterator", data := .fields #[.ref ax, .int 0 0] }).get? b = some o → h'.get? b = some o) → ∀ b o, s₁.heap.get? b = some o → h'.get? b = some o :=
    fun s₃ hk b o e => hk b o (fun hm => by rcases List.mem_cons.mp hm with rfl | hm; exact Nat.lt_irrefl _ (Heap.lt_size e); cases hm) (Heap.get?_push_of_some _ e)
  refine wpAny_pyIter_list hl ⟨s₁.heap.objs.size, [s₁.heap.objs.size, ax], [s₁.heap.objs.size], vs.toArray.size, _, _, rfl, Walks.list hh _ _ (Nat.ne_of_lt hlt) vs.toArray, (by rw [List.size_toArray, hi.length]; exact hsz), ⟨⟨_, Heap.get?_push_size _ rfl, rfl, rfl⟩, hl.push _⟩, ?_, ⟨?_, ?_⟩, ?_⟩
  · intro b hb
    show b < (s₁.heap.push _).objs.size
    rw [Heap.size_push]
    rcases List.mem_cons.mp hb with rfl | hb
    · exact Nat.lt_succ_self _
    · rcases List.mem_cons.mp hb with rfl | hb
      · exact Nat.lt_succ_of_lt hlt
      · cases hb
  · intro C i v s₃ m₃ E' hC hP hn hm hk htk
    obtain ⟨a, hmem, ha⟩ := hi.memD v (by simpa using Array.mem_of_getElem? hP)
    rw [ItemKind.lift_is ha]
    obtain ⟨u, rfl⟩ := ha
    exact htests C a u s₃ m₃ E' hmem hn hm (up _ hk) htk
  · intro C i v s₃ m₃ E' hC hP hp hn hm hk htk
    obtain ⟨a, hmem, ha⟩ := hi.memD v (by simpa using Array.mem_of_getElem? hP)
    rw [ItemKind.lift_is ha] at hp
    obtain ⟨u, rfl⟩ := ha
    refine wpAny_mono (helt C a u s₃ m₃ E' hmem hp hn hm (up _ hk) htk) (fun y s₄ h₄ => ⟨⟨a, ⟨u, rfl⟩, ?_⟩, h₄.2⟩) fun _ _ e => e
    obtain ⟨⟨t', rfl⟩, _⟩ := h₄
    exact .str _ t'
  · intro D h' tk ys vs' hnew hlD hplD hlen hP hF hk
    have e : vs' = vs := by simpa using list_of_places hlen hP
    subst e
    refine hQ D ys.toList h' tk (up h' hk) ?_ (by rw [Array.toArray_toList]; exact hplD) (strsAre_of_carried (hi.paired pz (fun a => PyData.str (f a)) _ hF))
    cases e : s₁.heap.get? D with
    | none => rfl
    | some o' => rw [Heap.get?_push_of_some _ e] at hnew; cases hnew
end
theorem keepsRefl (s : Shared) : Keeps s s := ⟨s.heap, s.toks, rfl, fun _ _ e => e⟩
theorem keepsTrans {s₁ s₂ s₃ : Shared} (a : Keeps s₁ s₂) (b : Keeps s₂ s₃) : Keeps s₁ s₃ := by
  obtain ⟨h, t, rfl, ka⟩ := a
  obtain ⟨h', t', rfl, kb⟩ := b
  exact ⟨h', t', rfl, fun b o e => kb b o (ka b o e)⟩
theorem keepsToks (s : Shared) (t : Nat) : Keeps s { s with toks := t } := ⟨s.heap, t, rfl, fun _ _ e => e⟩
theorem newsAdd {h₀ h h' : Heap} {L D : Addr} {m : Str → Option Value} {news : List (Addr × Obj)} {o : Obj} (F : Fr h₀ L h m) (N : News h₀ L h news) (hk : ∀ b o, h.get? b = some o → h'.get? b = some o) (hD : h.get? D = none) (ho : h'.get? D = some o) :
    News h₀ L h' ((D, o) :: news) := by
  intro p hp
  rcases List.mem_cons.mp hp with rfl | hp
  · refine ⟨ho, fun e => ?_, ?_⟩
    · obtain ⟨oL, _, _, hL, _⟩ := F.ns
      have e' : D = L := e
      rw [← e', hD] at hL; cases hL
    · cases q : h₀.get? D with
      | none => rfl
      | some o' => have := F.keep _ _ q; rw [hD] at this; cases this
  · exact ⟨hk _ _ (N p hp).1, (N p hp).2.1, (N p hp).2.2⟩
theorem newsApart {h₀ h : Heap} {L D : Addr} {news : List (Addr × Obj)} (N : News h₀ L h news) (hD : h.get? D = none) : ∀ p ∈ news, p.1 ≠ D := fun p hp e => by
  have := (N p hp).1
  rw [e, hD] at this; cases this
section
variable {M : Model} {A : Around} {E : Value → Shared → Prop} {s : Shared} {env : Env} {scope : Scope} {cl : List (Str × Addr)} {C c : Addr} {x : Str} {v : Value} {pos : Pos} {m : Str → Option Value} {Q : Value → Shared → Prop}
theorem tests0 {cenv : Env} {Q : Bool → Shared → Prop} (h : Q true s) :
    wpAny M A (forIn ([] : List Expr) true fun c r => if r = true then do let ok ← isTrue c cenv (eval c cenv); pure (ForInStep.yield ok) else pure (ForInStep.yield r)) Q E s := wpAny_pure h
theorem tests1 {e : Expr} {cenv : Env} {Q : Bool → Shared → Prop} (h : wpAny M A (isTrue e cenv (eval e cenv)) Q E s) :
    wpAny M A (forIn [e] true fun c r => if r = true then do let ok ← isTrue c cenv (eval c cenv); pure (ForInStep.yield ok) else pure (ForInStep.yield r)) Q E s := by
  simp only [List.forIn_cons, List.forIn_nil, if_true]
  exact wpAny_bind (wpAny_bind (wpAny_mono h (fun ok s₁ hq => wpAny_pure (wpAny_pure hq)) fun _ _ y => y))
theorem compLocal (hk : scope.kind = .function) (hl : scope.names.lookup x = some .local) (hn : s.heap.Ns C m) (hm : m x = some v) (h : Q v s) (hd : (x == ("__debug__" : Str)) = false := by decide) :
    wpAny M A (eval (.Name x pos) (compEnvC scope cl C env)) Q E s :=
  wpAny_Name (wpAny_loadName_local (env := compEnvC scope cl C env) hk (lookup_relabel_local hl) hn hm h) hd
theorem compCell (hk : scope.kind = .function) (hl : (compEnvC scope cl C env).kindOf x = some .cell) (hc : cl.lookup x = some c) (hv : s.heap.IsCell c (some v)) (h : Q v s) (hd : (x == ("__debug__" : Str)) = false := by decide) :
    wpAny M A (eval (.Name x pos) (compEnvC scope cl C env)) Q E s :=
  wpAny_Name (wpAny_loadName_cell (env := compEnvC scope cl C env) hk hl hc hv h) hd
end
end
section
open PySem PySem.W PySem.Calls PySem.Spec PyProof.Rows
set_option maxRecDepth 100000
set_option maxHeartbeats 0
theorem st_canLayAll0 : ∀ {us : List Str}, (∀ x ∈ us, PyData.strOk x = true) → PyData.canLayAll0 (us.map PyData.str) = true
  | [], _ => rfl
  | x :: r, h => by simp [PyData.canLayAll0, PyData.canLay0, h x (.head _), st_canLayAll0 fun y hy => h y (.tail _ hy)]
theorem st_depthAll : ∀ us : List Str, PyData.depthAll (us.map PyData.str) = 0
  | [] => rfl
  | _ :: r => by simp [PyData.depthAll, PyData.depth, st_depthAll r]
theorem st_shaped {us : List Str} (h : ∀ x ∈ us, PyData.strOk x = true) : SeqAt.shaped (.list (us.map PyData.str)) = true := by
  simp [SeqAt.shaped, PyData.canLay0, PyData.depth, st_canLayAll0 h, st_depthAll]
theorem st_sameAll : ∀ us vs : List Str, PySem.Spec.sameAll (us.map PyData.str) (vs.map PyData.str) = decide (us = vs)
  | [], [] => by simp [PySem.Spec.sameAll]
  | [], _ :: _ => by simp [PySem.Spec.sameAll]
  | _ :: _, [] => by simp [PySem.Spec.sameAll]
  | a :: r, b :: t => by
    simp only [List.map_cons, PySem.Spec.sameAll, PySem.Spec.same, st_sameAll r t]
    by_cases h : a = b <;> by_cases h' : r = t <;> simp [h, h']
theorem st_same (us vs : List Str) : PySem.Spec.same (.list (us.map PyData.str)) (.list (vs.map PyData.str)) = decide (us = vs) := by
  simp only [PySem.Spec.same]; exact st_sameAll us vs
theorem st_carried : ∀ {vs : List Value} {us : List Str}, StrsAre vs us → CarriedAll vs (us.map PyData.str)
  | _, _, .nil => .nil
  | _, _, .cons _ t r => .cons (.str _ t) (st_carried r)
section
variable {prog : Program} {w : World} {A : Around} {E : Value → Shared → Prop} {s : Shared} {a b : Addr} {xs ys : List Value} {us vs : List Str} {Q : Value → Shared → Prop}
theorem eq_strs (ha : s.heap.IsList a xs.toArray) (hb : s.heap.IsList b ys.toArray) (hi : StrsAre xs us) (hj : StrsAre ys vs) (ou : ∀ x ∈ us, PyData.strOk x = true) (ov : ∀ x ∈ vs, PyData.strOk x = true) (hu : A.units + 64 < cLine) (h : Q (.bool (decide (us = vs))) s) :
    wpAny (model prog w) A (compareOp .Eq (.ref a) (.ref b)) Q E s :=
  eq_dataH_same (reads_newData ha (st_carried hi)) (reads_newData hb (st_carried hj)) (st_shaped ou) (st_shaped ov) hu (SeqAt.noMix_of_shape (.list .str) rfl _ _ (list_map_has fun _ => rfl) (list_map_has fun _ => rfl)) (by rw [st_same]; exact h)
theorem ne_strs (ha : s.heap.IsList a xs.toArray) (hb : s.heap.IsList b ys.toArray) (hi : StrsAre xs us) (hj : StrsAre ys vs) (ou : ∀ x ∈ us, PyData.strOk x = true) (ov : ∀ x ∈ vs, PyData.strOk x = true) (hu : A.units + 64 < cLine) (h : Q (.bool (!decide (us = vs))) s) :
    wpAny (model prog w) A (compareOp .NotEq (.ref a) (.ref b)) Q E s :=
  ne_dataH_same (reads_newData ha (st_carried hi)) (reads_newData hb (st_carried hj)) (st_shaped ou) (st_shaped ov) hu (SeqAt.noMix_of_shape (.list .str) rfl _ _ (list_map_has fun _ => rfl) (list_map_has fun _ => rfl)) (by rw [st_same]; exact h)
end
end
section
open PySem PySem.W PySem.Calls PySem.Spec PyProof.Rows Builtin.Str
set_option maxRecDepth 100000
set_option maxHeartbeats 400000
theorem sliceIdx (a b n : Nat) : strSliceIndices (some (a : Int)) (some (b : Int)) 1 n = (List.range (min b n - min a n)).map (fun k => min a n + k) := by
  unfold strSliceIndices sliceRange
  have h1 : (1 : Int) > 0 := by decide
  simp only [h1, if_true]
  have ha : ¬ ((a : Int) < 0) := by omega
  have hb : ¬ ((b : Int) < 0) := by omega
  simp only [ha, hb, if_false]
  have ea : max (0 : Int) (min (a : Int) n) = ((min a n : Nat) : Int) := by omega
  have eb : max (0 : Int) (min (b : Int) n) = ((min b n : Nat) : Int) := by omega
  rw [ea, eb]
  have ec : (if ((min a n : Nat) : Int) < ((min b n : Nat) : Int) then (((min b n : Nat) : Int) - ((min a n : Nat) : Int) + 1 - 1) / 1 else 0).toNat = min b n - min a n := by
    split <;> (try rw [Int.ediv_one]) <;> omega
  rw [ec]
  apply List.map_congr_left
  intro k _
  omega
theorem fm_range (l : List Nat) (a c : Nat) (h : a + c ≤ l.length) : ((List.range c).map (fun k => a + k)).filterMap (fun i => l.toArray[i]?) = (l.drop a).take c := by
  induction c generalizing a with
  | zero => simp
  | succ c ih =>
    rw [List.range_succ_eq_map, List.map_cons, List.filterMap_cons]
    have ha : a < l.length := by omega
    have e0 : l.toArray[a + 0]? = some l[a] := by simp [ha]
    rw [e0]
    rw [List.drop_eq_getElem_cons ha, List.take_succ_cons]
    have := ih (a + 1) (by omega)
    rw [← this, List.map_map]
    show l[a] :: _ = l[a] :: _
    have e : (List.range c).map ((fun k => a + k) ∘ Nat.succ) = (List.range c).map (fun k => a + 1 + k) := by
      apply List.map_congr_left
      intro k _
      show a + (k + 1) = a + 1 + k
      omega
    rw [e]
theorem sliceAt (x : Str) (a b : Nat) : Txt.slice x (some (a : Int)) (some (b : Int)) = ⟨((x.cps.toList.drop a).take (b - a)).toArray⟩ := by
  obtain ⟨⟨l⟩⟩ := x
  unfold Txt.slice
  rw [sliceIdx]
  have hl : (Str.mk ⟨l⟩).length = l.length := by simp [Str.length]
  rw [hl]
  have fm := fm_range l (min a l.length) (min b l.length - min a l.length) (by omega)
  have e2 : (l.drop (min a l.length)).take (min b l.length - min a l.length) = (l.drop a).take (b - a) := by
    apply List.ext_getElem?
    intro i
    simp only [List.getElem?_take, List.getElem?_drop]
    by_cases h : i < b - a
    · by_cases h2 : a + i < l.length
      · rw [if_pos (by omega), if_pos h]
        congr 1; omega
      · rw [if_pos h, List.getElem?_eq_none (by omega : l.length ≤ a + i)]
        rw [if_neg (by omega)]
    · rw [if_neg (by omega), if_neg h]
  split
  · rename_i hc
    simp only [List.length_map, List.length_range, beq_self_eq_true, Bool.true_and, beq_iff_eq] at hc
    have : (l.drop a).take (b - a) = l := by
      rw [← e2]
      have ha : min a l.length = 0 ∨ l.length = 0 := by omega
      rcases ha with ha | ha
      · rw [ha] at hc ⊢
        rw [List.drop_zero, List.take_of_length_le (by omega)]
      · have : l = [] := List.length_eq_zero_iff.mp ha
        subst this; simp
    rw [this]
  · show Str.mk (List.filterMap (fun i => l.toArray[i]?) _).toArray = _
    rw [fm, e2]
theorem sliceIdxN (a n : Nat) : strSliceIndices (some (a : Int)) none 1 n = strSliceIndices (some (a : Int)) (some (n : Int)) 1 n := by
  unfold strSliceIndices
  have h1 : (1 : Int) > 0 := by decide
  simp only [h1, if_true]
  congr 1
  omega
theorem sliceFrom (x : Str) (a : Nat) : Txt.slice x (some (a : Int)) none = ⟨(x.cps.toList.drop a).toArray⟩ := by
  have e : Txt.slice x (some (a : Int)) none = Txt.slice x (some (a : Int)) (some (x.length : Int)) := by
    unfold Txt.slice
    rw [sliceIdxN]
  rw [e, sliceAt]
  congr 2
  apply List.take_of_length_le
  simp [Str.length]
theorem sliceIdxT (b n : Nat) : strSliceIndices none (some (b : Int)) 1 n = strSliceIndices (some ((0 : Nat) : Int)) (some (b : Int)) 1 n := by
  unfold strSliceIndices
  have h1 : (1 : Int) > 0 := by decide
  simp only [h1, if_true]
  congr 1
theorem sliceTo (x : Str) (b : Nat) : Txt.slice x none (some (b : Int)) = ⟨(x.cps.toList.take b).toArray⟩ := by
  have e : Txt.slice x none (some (b : Int)) = Txt.slice x (some ((0 : Nat) : Int)) (some (b : Int)) := by
    unfold Txt.slice
    rw [sliceIdxT]
  rw [e, sliceAt]
  simp
theorem strOf (x : Str) : x = ⟨x.cps.toList.toArray⟩ := by obtain ⟨⟨l⟩⟩ := x; rfl
theorem strEq {x y : Str} (h : x.cps.toList = y.cps.toList) : x = y := by rw [strOf x, strOf y, h]

def pairsL : List Nat → Nat
  | 34 :: 39 :: r => pairsL r + 1
  | _ => 0
def pairsF (x : Str) : Nat := pairsL x.cps.toList
theorem pairsL_step (l : List Nat) : pairsL l = if l.take 2 = [34, 39] then pairsL (l.drop 2) + 1 else 0 := by
  match l with
  | [] => simp [pairsL]
  | [a] => simp [pairsL]
  | a :: b :: r =>
    by_cases ha : a = 34
    · by_cases hb : b = 39
      · subst ha hb; simp [pairsL]
      · subst ha
        rw [if_neg (by simp [hb])]
        unfold pairsL
        split
        · rename_i h; simp at h; exact absurd h.1 hb
        · rfl
    · rw [if_neg (by simp [ha])]
      unfold pairsL
      split
      · rename_i h; simp at h; exact absurd h.1 ha
      · rfl
theorem pairsL_drop (l : List Nat) (k : Nat) (h : k ≤ pairsL l) : pairsL (l.drop (2 * k)) = pairsL l - k := by
  induction k generalizing l with
  | zero => simp
  | succ k ih =>
    rw [pairsL_step] at h
    split at h
    · rename_i ht
      rw [pairsL_step l, if_pos ht]
      have e : l.drop (2 * (k + 1)) = (l.drop 2).drop (2 * k) := by rw [List.drop_drop]; congr 1; omega
      rw [e, ih _ (by omega)]
      omega
    · omega
theorem pairsL_le (l : List Nat) : 2 * pairsL l ≤ l.length := by
  match l with
  | [] => simp [pairsL]
  | [a] => simp [pairsL]
  | a :: b :: r =>
    rw [pairsL_step]
    have := pairsL_le r
    split
    · simp; omega
    · omega
theorem pairsF_le (x : Str) : 2 * pairsF x ≤ x.length := by
  have := pairsL_le x.cps.toList
  simpa [pairsF, Str.length] using this
theorem beqB {α : Type} [DecidableEq α] (a b : α) : (a == b) = decide (a = b) := by
  by_cases h : a = b <;> simp [h]
theorem ofDq : Str.ofString "\"'" = ⟨#[34, 39]⟩ := by decide +kernel
theorem pairs_test (x : Str) (k : Nat) (h : k ≤ pairsF x) : (Txt.slice x (some (2 * (k : Int))) (some (2 * (k : Int) + 2)) == Str.ofString "\"'") = decide (k < pairsF x) := by
  have e1 : (2 * (k : Int)) = ((2 * k : Nat) : Int) := by omega
  have e2 : (2 * (k : Int) + 2) = ((2 * k + 2 : Nat) : Int) := by omega
  rw [e2, e1, sliceAt, beqB, ofDq]
  have e3 : 2 * k + 2 - 2 * k = 2 := by omega
  rw [e3]
  congr 1
  have hd := pairsL_drop x.cps.toList k h
  rw [pairsL_step] at hd
  unfold pairsF at h ⊢
  apply propext
  constructor
  · intro hx
    have hx' : (x.cps.toList.drop (2 * k)).take 2 = [34, 39] := by
      have := congrArg (fun s : Str => s.cps.toList) hx
      simpa using this
    rw [if_pos hx'] at hd
    omega
  · intro hx
    by_cases ht : (x.cps.toList.drop (2 * k)).take 2 = [34, 39]
    · rw [ht]
    · rw [if_neg ht] at hd; omega

theorem parts_sum (x y : Str) : ((partsBetween x (occurrences x y 0 x.length (x.length + 1)) y.length).map (·.length)).sum ≤ x.length := by
  have hy : (glued y (partsBetween x (occurrences x y 0 x.length (x.length + 1)) y.length)).length = x.length := by rw [StrLaws.glued_between_self]
  rw [size_glued] at hy
  omega
theorem parts_len (x y : Str) : (partsBetween x (occurrences x y 0 x.length (x.length + 1)) y.length).length ≤ x.length + 2 := by
  have h1 := StrLaws.occ_length_le x y 0 x.length (x.length + 1)
  rw [length_partsBetween]
  omega
theorem len_replace (x y z : Str) : (Txt.replace x y z).length ≤ x.length + (x.length + 1) * z.length := by
  unfold Txt.replace
  split
  · omega
  · have h1 := StrLaws.occ_length_le x y 0 x.length (x.length + 1)
    have h2 := parts_sum x y
    rw [size_glued, length_partsBetween, Nat.add_sub_cancel]
    have h3 : (occurrences x y 0 x.length (x.length + 1)).length * z.length ≤ (x.length + 1) * z.length := Nat.mul_le_mul_right _ h1
    omega
theorem split_sum (x y : Str) : ((Txt.split x y).map (·.length)).sum ≤ x.length := by
  unfold Txt.split
  split
  · simp
  · split
    · simp
    · exact parts_sum x y
theorem split_len (x y : Str) : (Txt.split x y).length ≤ x.length + 2 := by
  unfold Txt.split
  split
  · simp
  · split
    · simp
    · exact parts_len x y
theorem len_joinsplit (x y z : Str) : (Txt.join z (Txt.split x y)).length ≤ x.length + (x.length + 2) * z.length := by
  show (glued z (Txt.split x y)).length ≤ _
  rw [size_glued]
  have h1 := split_sum x y
  have h2 := split_len x y
  have h3 : ((Txt.split x y).length - 1) * z.length ≤ (x.length + 2) * z.length := Nat.mul_le_mul_right _ (by omega)
  omega
end
section
open PySem PySem.W PySem.Calls PyProof.Rows
set_option maxRecDepth 100000
set_option maxHeartbeats 0
def signF (x : Int) : Str :=
  if x.fmod 16 = 11 then Txt.item (Str.ofString "_@%+=:,./-") (((x.fdiv 16).fmod 1112064).fmod 10)
  else if x.fmod 16 = 12 then Txt.item (Str.ofString "~*?!$`&|;<>()[]{}^#\t\r") (((x.fdiv 16).fmod 1112064).fmod 21)
  else if x.fmod 16 = 15 then ⟨#[(if (x.fdiv 16).fmod 1112064 < 55296 then (x.fdiv 16).fmod 1112064 else (x.fdiv 16).fmod 1112064 + 2048).toNat]⟩
  else ([Str.ofString "", Str.ofString "", Str.ofString "\"'", Str.ofString "'", Str.ofString "\"", Str.ofString "\\", Str.ofString " ", Str.ofString "a", Str.ofString "'\"'\"'", Str.ofString "'\\''", Str.ofString "\n", Str.ofString "", Str.ofString "", Str.ofString "\"'", Str.ofString ""] : List Str).getD (x.fmod 16).toNat Str.empty

theorem c_sign {w : World} {p : Program} {loose : List Str} {mg mb : Str → Option Value} {A : Around} {s : Shared} {Q E : Value → Shared → Prop} {x : Int} {tk : Tok}
  (hroom : A.depth + 10 < recursionLimit) (hun : A.units + 100 < cLine) (KX : (Mine.kFrag w.params).In s.heap) (T : TopRead p loose mg mb s.heap) (hx0 : 0 ≤ x) (hx1 : x < 142344192)
  (h : ∀ (t : Tok) s', Keeps s s' → Q (.str (signF x) t) s') :
  wpAny (model (PySem.Challenge.rw_mj0255_01).prog w) A (call (.ref 773) [.int x tk]) Q E s := by
  revert KX
  k_fill
  intro KX
  refine wpAny_call ?_
  k_dflt (refine' enter0 KX T.nolimit ?k6 ?k7 ?k8 ?k9 ?kB ?_ ?c2 ?c3 ?c4 ?c5; (case k6 => k_is); (case k7 => k_is); (case k8 => omega); (case k9 => exact BindsTo.of_eq rfl); (case c5 => decide); (case kB => exact locs rfl); (case c2 => exact rfl); (case c3 => exact rfl); (case c4 => exact rfl); k_whole)
  intro h₁ F N
  (try dsimp only)
  k_steps
  all_goals (try dsimp only)
  all_goals (unfold signF at h)
  · (simp only [*, if_true] at h); exact h _ _ (keepsOf (by assumption) rfl)
  · (simp only [*, if_true] at h); exact h _ _ (keepsOf (by assumption) rfl)
  · (simp only [*, if_true] at h); exact h _ _ (keepsOf (by assumption) rfl)
  · (simp only [*, if_true] at h); exact h _ _ (keepsOf (by assumption) rfl)
  · (simp only [*, if_false] at h); exact h _ _ (keepsOf (by assumption) rfl)

def partF (x : Int) : Str :=
  ([Str.ofString "'", Str.ofString "\"", Str.ofString "\\", Str.ofString "a", Str.ofString " ", Str.ofString "'\"'\"'", Str.ofString "", Str.ofString "'\\''"] : List Str).getD (x.fmod 8).toNat Str.empty

theorem c_part {w : World} {p : Program} {loose : List Str} {mg mb : Str → Option Value} {A : Around} {s : Shared} {Q E : Value → Shared → Prop} {x : Int} {tk : Tok}
  (hroom : A.depth + 10 < recursionLimit) (hun : A.units + 100 < cLine) (KX : (Mine.kFrag w.params).In s.heap) (T : TopRead p loose mg mb s.heap)
  (h : ∀ (t : Tok) s', Keeps s s' → Q (.str (partF x) t) s') :
  wpAny (model (PySem.Challenge.rw_mj0255_01).prog w) A (call (.ref 787) [.int x tk]) Q E s := by
  revert KX
  k_fill
  intro KX
  refine wpAny_call ?_
  k_dflt (refine' enter0 KX T.nolimit ?k6 ?k7 ?k8 ?k9 ?kB ?_ ?c2 ?c3 ?c4 ?c5; (case k6 => k_is); (case k7 => k_is); (case k8 => omega); (case k9 => exact BindsTo.of_eq rfl); (case c5 => decide); (case kB => exact locs rfl); (case c2 => exact rfl); (case c3 => exact rfl); (case c4 => exact rfl); k_whole)
  intro h₁ F N
  (try dsimp only)
  k_steps
  all_goals (try dsimp only)
  all_goals (unfold partF at h)
  all_goals ((simp only [*] at h); exact h _ _ (keepsOf (by assumption) rfl))
end
section
open PySem PySem.W PySem.Calls PySem.Spec PyProof.Rows
set_option maxRecDepth 100000
set_option maxHeartbeats 0
def safeS : Str := Str.ofString "ABCDEFGHIJKLMNOPQRSTUVWXYZabcdefghijklmnopqrstuvwxyz0123456789_@%+=:,./-"
def unsafeB (a : Str) : Bool := !(!(Builtin.Str.occurrences safeS a 0 safeS.length 1).isEmpty)
def bareF (x : Str) : Bool := if x = Str.ofString "" then false else decide ((signs x).filter unsafeB = [])

theorem signsOk {x : Str} {pz : Str → Bool} (f : Str → Str) (ox : PyData.strOk x = true) (hf : ∀ a, PyData.strOk a = true → PyData.strOk (f a) = true := by exact fun _ h => h) : ∀ y ∈ ((signs x).filter pz).map f, PyData.strOk y = true := by
  intro y hy
  obtain ⟨a, ha, rfl⟩ := List.mem_map.mp hy
  refine hf a ?_
  obtain ⟨c, hc, rfl⟩ := List.mem_map.mp (List.mem_filter.mp ha).1
  unfold PyData.strOk at ox ⊢
  have := Array.all_eq_true_iff_forall_mem.mp ox c (Array.mem_toList_iff.mp hc)
  simpa using this

theorem c_bare {w : World} {p : Program} {loose : List Str} {mg mb : Str → Option Value} {A : Around} {s : Shared} {Q E : Value → Shared → Prop} {x : Str} {tk : Tok}
  (hh : A.handled = none) (hroom : A.depth + 10 < recursionLimit) (hun : A.units + 100 < cLine) (KX : (Mine.kFrag w.params).In s.heap) (T : TopRead p loose mg mb s.heap)
  (hx : x.length ≤ 1000) (ox : PyData.strOk x = true)
  (h : ∀ s', Keeps s s' → Q (.bool (bareF x)) s') :
  wpAny (model (PySem.Challenge.rw_mj0255_01).prog w) A (call (.ref 792) [.str x tk]) Q E s := by
  revert KX
  k_fill
  intro KX
  refine wpAny_call ?_
  k_dflt (refine' enterC KX T.nolimit ?k6 ?k7 ?k8 ?k9 ?kB ?kN ?_ ?c2 ?c3 ?c4; (case k6 => k_is); (case k7 => k_is); (case k8 => omega); (case k9 => exact BindsTo.of_eq rfl); (case kN => decide +kernel); (case kB => exact rfl); (case c2 => exact rfl); (case c3 => exact rfl); (case c4 => exact rfl); k_whole)
  intro h₁ tkE cells F N CA
  k_cells CA
  (try dsimp only)
  k_steps
  · refine comp_signs unsafeB id hh (by with_unfolding_all rfl) (by decide) rfl (by decide) rfl ?_ (by intro _; rfl)
    walk1
    rename Fr _ _ _ _ => F1
    rename News _ _ _ _ => N1
    rename (_ = Data.cell (some _)) => D1
    have hsz : x.length ≤ sizeLine := by rw [sizeLine_eq]; omega
    unfold SignsSrc
    refine ⟨x, tk, rfl, hsz, ?_, ?_, ?_⟩
    · intro C a t s₂ m₂ E' _ hn hm hk _
      refine tests1 (wpAny_isTrue_Compare1 ?_)
      refine compLocal rfl rfl hn hm ?_
      refine compCell rfl (by with_unfolding_all rfl) (by with_unfolding_all rfl) ⟨_, hk _ _ (N1.get (.head _)), D1⟩ ?_
      refine notIn_str (wpAny_truthy_bool ⟨rfl, keepsRefl _⟩)
    · intro C a t s₂ m₂ E' _ _ hn hm hk _
      exact compLocal rfl rfl hn hm ⟨⟨t, rfl⟩, keepsRefl _⟩
    · intro D ys h' tk' hk hD hpl hys
      obtain ⟨n, hD'⟩ := hpl
      have F2 := F1.keeps hk
      have N2 := newsAdd F1 N1 hk hD hD'
      have l2 := newsApart N1 hD
      dsimp only
      walk1
      walk1
      walk1
      rename Fr _ _ _ _ => F3
      rename News _ _ _ _ => N3
      refine eq_strs (xs := ys) (ys := []) (News.isList N3 (.tail _ (.head _))) (News.isList N3 (.head _)) hys .nil (signsOk id ox) (fun x hx => nomatch hx) ?_ ?_
      · simp only [Around.deeper_units]; omega
      · have hne : x ≠ Str.ofString "" := by simpa using ‹(x != Str.ofString "") = true›
        unfold bareF at h
        rw [if_neg hne] at h
        simp only [List.map_id] at h ⊢
        exact h _ (keepsOf F3 rfl)
  · have hne : x = Str.ofString "" := by simpa using ‹(x != Str.ofString "") = false›
    unfold bareF at h
    rw [if_pos hne] at h
    subst hne
    exact h _ (keepsOf (by assumption) rfl)
end
local macro_rules | `(tactic| walk_at "m go") => `(tactic| repeat' (walk_at "m step"))
local macro_rules | `(tactic| walk_at "m enter0") => `(tactic| (k_dflt (refine' enter0 (by assumption) (TopRead.nolimit (by assumption)) ?k6 ?k7 ?k8 ?k9 ?kB ?_ ?c2 ?c3 ?c4 ?c5; (case k6 => k_is); (case k7 => k_is); (case k8 => omega); (case k9 => exact BindsTo.of_eq rfl); (case c5 => decide); (case kB => exact locs rfl); (case c2 => exact rfl); (case c3 => exact rfl); (case c4 => exact rfl); k_whole)))
local macro_rules | `(tactic| walk_at "m enterC") => `(tactic| (k_dflt (refine' enterC (by assumption) (TopRead.nolimit (by assumption)) ?k6 ?k7 ?k8 ?k9 ?kB ?kN ?_ ?c2 ?c3 ?c4; (case k6 => k_is); (case k7 => k_is); (case k8 => omega); (case k9 => exact BindsTo.of_eq rfl); (case kN => decide +kernel); (case kB => exact rfl); (case c2 => exact rfl); (case c3 => exact rfl); (case c4 => exact rfl); k_whole)))
local macro_rules | `(tactic| walk_at "m depth") => `(tactic| (simp only [depth_deeper, depth_in1, Around.deeper_units, Around.in1_units, Around.mark_units]; omega))
section
open PySem PySem.W PySem.Calls PySem.Spec PyProof.Rows
set_option maxRecDepth 100000
set_option maxHeartbeats 0
local macro_rules | `(tactic| walk_at "m step") => `(tactic| ((fail_if_success (with_reducible show wpAny _ _ (eval (Expr.ListComp _ _ _ _) _) _ _ _)); (fail_if_success (with_reducible show wpAny _ _ (call (Value.ref _) _ _) _ _ _)); (first | (k_unfold; (try dsimp only)) | walk1 | (dsimp only; walk1))))
def q1 : Str := Str.ofString "'"
def markS (mark a : Str) : Str := if a = Str.ofString "'" then mark else a
def marksF (mark x : Str) : Str := Txt.join (Str.ofString "") ((signs x).map (markS mark))
def markedF (x mark : Str) : Str := if bareF x = true then x else Str.ofString "'" ++ marksF mark x ++ Str.ofString "'"

theorem filterTrue {α : Type} (l : List α) : l.filter (fun _ => true) = l := by simp
theorem len_sign {x a : Str} (h : a ∈ signs x) : a.length = 1 := by
  obtain ⟨c, _, rfl⟩ := List.mem_map.mp h
  rfl
theorem len_marks {x mark : Str} {B : Nat} (hB : 1 ≤ B) (hm : mark.length ≤ B) : (((signs x).map (markS mark)).map (·.length)).sum ≤ B * x.length := by
  have := sumLen_le_of_bound (markS mark) B (signs x) (fun a ha => by unfold markS; split; exact hm; rw [len_sign ha]; exact hB)
  rwa [signs_length] at this
theorem len_join0 (ys : List Str) : (Txt.join (Str.ofString "") ys).length ≤ (ys.map (·.length)).sum := by
  have h := StrLaws.join_length_le (Str.ofString "") ys
  have e : (Str.ofString "").length = 0 := by decide +kernel
  rw [e, Nat.mul_zero, Nat.add_zero] at h
  show (Builtin.Str.glued _ _).length ≤ _
  rw [StrLaws.glued_eq_join]
  exact h

theorem c_marked {w : World} {p : Program} {loose : List Str} {mg mb : Str → Option Value} {A : Around} {s : Shared} {Q E : Value → Shared → Prop} {x mark : Str} {tk tk2 : Tok}
  (hh : A.handled = none) (hroom : A.depth + 20 < recursionLimit) (hun : A.units + 200 < cLine) (KX : (Mine.kFrag w.params).In s.heap) (T : TopRead p loose mg mb s.heap)
  (hx : x.length ≤ 1000) (hm : mark.length ≤ 100) (ox : PyData.strOk x = true)
  (h : ∀ t s', Keeps s s' → Q (.str (markedF x mark) t) s') :
  wpAny (model (PySem.Challenge.rw_mj0255_01).prog w) A (call (.ref 797) [.str x tk, .str mark tk2]) Q E s := by
  revert KX
  k_fill
  intro KX
  refine wpAny_call ?_
  walk_at "m enterC"
  intro h₁ tkE cells F N CA
  k_cells CA
  (try dsimp only)
  walk_at "m go"
  rename Fr _ _ _ _ => F1
  rename News _ _ _ _ => N1
  refine c_bare (p := p) (loose := loose) (mg := mg) (mb := mb) hh ?_ ?_ (KX.keeps F1.keep) (T.keeps F1.keep) hx ox ?_
  · walk_at "m depth"
  · walk_at "m depth"
  intro s' hs'
  obtain ⟨h2, tk3, rfl, hk2⟩ := hs'
  have F2 := F1.keeps hk2
  have N2 := News.grown N1 hk2
  dsimp only
  walk_at "m go"
  · dsimp only
    unfold markedF at h
    simp only [*, if_true] at h
    exact h _ _ (keepsOf F2 rfl)
  · refine comp_signs (fun _ => true) (markS mark) hh (by with_unfolding_all rfl) (by decide) rfl (by decide) rfl ?_ (by intro _; rfl)
    walk1
    rename (_ = Data.cell _) => D1
    have hsz : x.length ≤ sizeLine := by rw [sizeLine_eq]; omega
    unfold SignsSrc
    refine ⟨x, tk, rfl, hsz, ?_, ?_, ?_⟩
    · intro C a t s₂ m₂ E' _ hn hm hk _
      exact tests0 ⟨rfl, keepsRefl _⟩
    · intro C a t s₂ m₂ E' _ _ hn hm hk _
      refine wpAny_IfExp (wpAny_isTrue_Compare1 (compLocal rfl rfl hn hm (wpAny_Constant_str (eq_str (wpAny_truthy_bool ?_)))))
      by_cases ha : a = Str.ofString "'"
      · rw [if_pos (by simp [ha])]
        refine compCell rfl (by with_unfolding_all rfl) (by with_unfolding_all rfl) ⟨_, hk _ _ (N2.get (.head _)), D1⟩ ?_
        exact ⟨⟨tk2, by simp [markS, ha]⟩, keepsToks _ _⟩
      · rw [if_neg (by simpa using ha)]
        refine compLocal rfl rfl hn hm ⟨⟨t, by simp [markS, ha]⟩, keepsToks _ _⟩
    · intro D ys h' tk' hk hD hpl hys
      obtain ⟨n, hD'⟩ := hpl
      have F3 := F2.keeps hk
      have N3 := newsAdd F2 N2 hk hD hD'
      have l3 := newsApart N2 hD
      clear F2 N2 F1 N1
      rw [filterTrue] at hys
      dsimp only
      walk_at "m go"
      have hb := len_marks (x := x) (mark := mark) (B := 100) (by omega) hm
      have hJ := len_join0 ((signs x).map (markS mark))
      have e0 : (Str.ofString "").length = 0 := by decide +kernel
      refine join_list (News.isList N3 (.head _)) (by simpa using hys) (by rw [e0]; omega) ?_
      intro tJ kJ
      have hJ' : (marksF mark x).length ≤ 100000 := by unfold marksF; omega
      change wpAny _ _ _ _ _ _
      walk_at "m go"
      dsimp only
      unfold markedF marksF at h
      have hb : ¬ bareF x = true := by simpa using ‹bareF x = false›
      rw [if_neg hb] at h
      exact h _ _ (keepsOf F3 rfl)
end
local macro_rules | `(tactic| walk_at "m step") => `(tactic| ((fail_if_success (with_reducible show wpAny _ _ (eval (Expr.ListComp _ _ _ _) _) _ _ _)); (fail_if_success (with_reducible show wpAny _ _ (call (Value.ref _) _ _) _ _ _)); (fail_if_success (with_reducible show wpAny _ _ (exec (Stmt.While _ _ _ _) _) _ _ _)); (fail_if_success (with_reducible show wpAny _ _ (exec (Stmt.For _ _ _ _ _) _) _ _ _)); (first | (k_unfold; (try dsimp only)) | walk1 | (dsimp only; walk1))))
local macro_rules | `(tactic| walk_at "execs cons") => `(tactic| ((with_reducible refine wpAny_execs_cons ?_); try dsimp only))
local macro_rules | `(tactic| walk_at "execs nil") => `(tactic| ((with_reducible refine wpAny_execs_nil ?_); try dsimp only))
section
open PySem PySem.W PySem.Calls PySem.Spec PyProof.Rows
set_option maxRecDepth 100000
set_option maxHeartbeats 0
section
variable {prog : Program} {w : World} {A : Around} {E : Value → Shared → Prop} {Q : Flow → Shared → Prop} {s : Shared} {env : Env} {h₀ : Heap} {L : Addr}
def CntPost (h₀ : Heap) (L : Addr) (s : Shared) (mm : Str → Option Value) (news : List (Addr × Obj)) (i : Str) (k K : Nat) (f : Flow) (s₃ : Shared) : Prop :=
  f = .next ∧ k < K ∧ ∃ h' tk t' m', s₃ = { s with heap := h', toks := tk } ∧ Fr h₀ L h' m' ∧ News h₀ L h' news ∧ ∀ y, m' y = if y = i then some (.int ((k : Int) + 1) t') else mm y
theorem cntPost {mm : Str → Option Value} {news : List (Addr × Obj)} {i : Str} {k K : Nat} {h' : Heap} {tk : Nat} {t t' : Tok} (hk : k < K) (F : Fr h₀ L h' (fun y => if y = i then some (.int ((k : Int) + 1) t') else (if y = i then some (.int (k : Int) t) else mm y))) (N : News h₀ L h' news) :
    CntPost h₀ L s mm news i k K .next { s with heap := h', toks := tk } :=
  ⟨rfl, hk, h', tk, t', _, rfl, F, N, fun y => by by_cases hy : y = i <;> simp [hy]⟩
theorem while_cnt {test : Expr} {body : List Stmt} {pos : Pos} {mm : Str → Option Value} {news : List (Addr × Obj)} (i : Str) (K : Nat) {t0 : Tok}
    (F : Fr h₀ L s.heap mm) (N : News h₀ L s.heap news) (h0 : mm i = some (.int 0 t0))
    (turn : ∀ (k : Nat) t h₁ tk₁, k ≤ K → Fr h₀ L h₁ (fun y => if y = i then some (.int k t) else mm y) → News h₀ L h₁ news →
      wpAny (model prog w) A (isTrue test env (eval test env)) (fun b s₂ =>
        if b = true then wpAny (model prog w) A (execs body env) (CntPost h₀ L s mm news i k K) E s₂ else Q .next s₂) E { s with heap := h₁, toks := tk₁ })
    (hE : PassesOwn (model prog w) A env E := by passes_own) :
    wpAny (model prog w) A (exec (.While test body [] pos) env) Q E s := by
  refine While_inv2 (fun n m₁ news₁ => news₁ = news ∧ ∃ (k : Nat) (t : Tok), k ≤ K ∧ n = K - k ∧ m₁ = fun y => if y = i then some (.int k t) else mm y) (n₀ := K) F N ⟨rfl, 0, t0, Nat.zero_le _, rfl, ?_⟩ ?_ hE
  · funext y
    split
    · rename_i e; rw [e, h0]; rfl
    · rfl
  · rintro n m₁ news₁ h₁ tk₁ F₁ N₁ ⟨rfl, k, t, hk, rfl, rfl⟩
    refine wpAny_mono (turn k t h₁ tk₁ hk F₁ N₁) (fun b s₂ h₂ => ?_) fun _ _ e => e
    cases b with
    | false => simpa using h₂
    | true =>
      simp only [if_true] at h₂ ⊢
      refine wpAny_mono h₂ (fun f s₃ h₃ => ?_) fun _ _ e => e
      obtain ⟨rfl, hlt, h', tk, t', m', rfl, F', N', hm⟩ := h₃
      exact ⟨h', tk, m', news₁, K - (k + 1), rfl, F', N', by omega, rfl, k + 1, t', hlt, rfl, funext fun y => by rw [hm y]; simp⟩
end

theorem len_reps (a : Array Nat) : ∀ (n : Nat) (b : Array Nat), ((List.replicate n a).foldl (· ++ ·) b).size = b.size + n * a.size
  | 0, b => by simp
  | n + 1, b => by
    rw [List.replicate_succ, List.foldl_cons, len_reps a n, Array.size_append, Nat.succ_mul]
    omega
theorem len_mulS {z : Str} {n a b : Nat} (hz : z.length ≤ a) (hn : n ≤ b) : (Txt.mul z (n : Int)).length ≤ a * b := by
  unfold Txt.mul
  have hm : z.length * n ≤ a * b := Nat.mul_le_mul hz hn
  split
  · exact Nat.zero_le _
  · rename_i h1
    split
    · have : z.length * 1 ≤ z.length * n := Nat.mul_le_mul_left _ (by omega)
      omega
    · show ((List.replicate (n : Int).toNat z.cps).foldl (· ++ ·) #[]).size ≤ a * b
      rw [len_reps]
      have e : (n : Int).toNat * z.cps.size = z.length * n := by rw [Int.toNat_natCast, Nat.mul_comm]; rfl
      rw [e]
      simpa using hm

def turnedF (x mark : Str) : Str :=
  if pairsF x = 0 then markedF x mark
  else Txt.mul (mark ++ Str.ofString "\"") (pairsF x) ++ Str.ofString "'" ++ marksF mark (Txt.slice x (some (2 * (pairsF x : Int))) none) ++ Str.ofString "'"

theorem c_turned {w : World} {p : Program} {loose : List Str} {mg mb : Str → Option Value} {A : Around} {s : Shared} {Q E : Value → Shared → Prop} {x mark : Str} {tk tk2 : Tok}
  (hh : A.handled = none) (hroom : A.depth + 30 < recursionLimit) (hun : A.units + 300 < cLine) (KX : (Mine.kFrag w.params).In s.heap) (T : TopRead p loose mg mb s.heap)
  (hx : x.length ≤ 1000) (hm : mark.length ≤ 100) (ox : PyData.strOk x = true)
  (h : ∀ t s', Keeps s s' → Q (.str (turnedF x mark) t) s') :
  wpAny (model (PySem.Challenge.rw_mj0255_01).prog w) A (call (.ref 802) [.str x tk, .str mark tk2]) Q E s := by
  revert KX
  k_fill
  intro KX
  refine wpAny_call ?_
  walk_at "m enterC"
  intro h₁ tkE cells F N CA
  k_cells CA
  (try dsimp only)
  walk_at "m go"
  rename Fr _ _ _ _ => F1
  rename News _ _ _ _ => N1
  refine while_cnt (Str.ofString "pairs") (pairsF x) F1 N1 (by rfl) ?_
  intro k t h2 tk2 hk F2 N2
  clear F1 N1
  walk_at "m go"
  · rename ((_ == _) = true) => hT
    rw [pairs_test x k hk] at hT
    exact cntPost (of_decide_eq_true hT) (by assumption) (by assumption)
  · rename ((_ == _) = false) => hT
    rename ((k : Int) = 0) => hk0
    rw [pairs_test x k hk] at hT
    have hK : pairsF x = 0 := by have := of_decide_eq_false hT; omega
    rename Fr _ _ _ _ => F3
    rename News _ _ _ _ => N3
    refine c_marked (p := p) (loose := loose) (mg := mg) (mb := mb) hh ?_ ?_ (KX.keeps F3.keep) (T.keeps F3.keep) hx hm ox ?_
    · walk_at "m depth"
    · walk_at "m depth"
    intro t9 s' hs'
    unfold turnedF at h
    rw [if_pos hK] at h
    exact h _ _ (keepsTrans (keepsOf (s := s) F3 rfl) hs')
  · rename ((_ == _) = false) => hT
    rename ((k : Int) ≠ 0) => hk0
    rw [pairs_test x k hk] at hT
    have hK : pairsF x = k := by have := of_decide_eq_false hT; omega
    subst hK
    rename Fr _ _ _ _ => F3
    rename News _ _ _ _ => N3
    refine comp_signs (fun _ => true) (markS mark) hh (by with_unfolding_all rfl) (by decide) rfl (by decide) rfl ?_ (by intro _; rfl)
    walk_at "m go"
    rename Fr _ _ _ _ => F4
    rename News _ _ _ _ => N4
    rename (_ = Data.cell _) => D1
    generalize hy : Txt.slice x (some (2 * (pairsF x : Int))) none = y
    have hyl : y.length ≤ x.length := by rw [← hy]; exact Txt.slice_le x _ _
    have hsz : y.length ≤ sizeLine := by rw [sizeLine_eq]; omega
    unfold SignsSrc
    refine ⟨y, _, rfl, hsz, ?_, ?_, ?_⟩
    · intro C a t s₂ m₂ E' _ hn hm hk _
      exact tests0 ⟨rfl, keepsRefl _⟩
    · intro C a t s₂ m₂ E' _ _ hn hm hk _
      refine wpAny_IfExp (wpAny_isTrue_Compare1 (compLocal rfl rfl hn hm (wpAny_Constant_str (eq_str (wpAny_truthy_bool ?_)))))
      by_cases ha : a = Str.ofString "'"
      · rw [if_pos (by simp [ha])]
        refine compCell rfl (by with_unfolding_all rfl) (by with_unfolding_all rfl) ⟨_, hk _ _ (N4.get (.head _)), D1⟩ ?_
        exact ⟨⟨_, by simp [markS, ha]; rfl⟩, keepsToks _ _⟩
      · rw [if_neg (by simpa using ha)]
        refine compLocal rfl rfl hn hm ⟨⟨t, by simp [markS, ha]⟩, keepsToks _ _⟩
    · intro D ys h' tk' hk hD hpl hys
      obtain ⟨n, hD'⟩ := hpl
      have F5 := F4.keeps hk
      have N5 := newsAdd F4 N4 hk hD hD'
      have l5 := newsApart N4 hD
      clear F4 N4
      rw [filterTrue] at hys
      dsimp only
      walk_at "m go"
      have hb := len_marks (x := y) (mark := mark) (B := 100) (by omega) hm
      have hJ := len_join0 ((signs y).map (markS mark))
      have e0 : (Str.ofString "").length = 0 := by decide +kernel
      have hpl := pairsF_le x
      refine join_list (News.isList N5 (.head _)) (by simpa using hys) (by rw [e0]; omega) ?_
      intro tJ kJ
      have hJ' : (Txt.join (Str.ofString "") ((signs y).map (markS mark))).length ≤ 100000 := by omega
      walk_at "m go"
      have hml : (mark ++ Str.ofString "\"").length ≤ 101 := by
        rw [Str.length_append, show (Str.ofString "\"").length = 1 from by decide +kernel]; omega
      refine SB.mul (mulOk_of 101 1000 hml (by omega) (by omega) (by decide) (by decide)) ?_
      intro tM kM
      have hM : (Txt.mul (mark ++ Str.ofString "\"") (pairsF x : Int)).length ≤ 101000 := len_mulS (n := pairsF x) (a := 101) (b := 1000) hml (by omega)
      walk_at "m go"
      dsimp only
      have hK0 : ¬ pairsF x = 0 := by omega
      unfold turnedF marksF at h
      rw [if_neg hK0, hy] at h
      exact h _ _ (keepsOf (by assumption) rfl)
end
section
open PySem PySem.W PySem.Calls PySem.Spec PyProof.Rows
set_option maxRecDepth 100000
set_option maxHeartbeats 400000
def reCode : Array Nat := #[14, 17, 4, 1, 1, 21, 9, 0, 604043296, 1, 0, 0, 0, 0, 0, 8, 4, 0, 13, 14, 21, 9, 0, 604043296, 1, 0, 0, 0, 0, 0, 8, 4, 0, 1]
def chB (c : Nat) : Bool := decide (c < 256) && ((reCode.getD (7 + c / 32) 0).testBit (c % 32))
def unsafeC (c : Nat) : Bool := !(chB c || Sre.isWord c)
theorem getD_shift : ∀ k, k < 8 → reCode.getD (22 + k) 0 = reCode.getD (7 + k) 0 := by decide
theorem inSet5 (c : Nat) (seen : Sre.Seen) : ∃ seen', Sre.inSet reCode c 34 5 true seen = .ok (unsafeC c, seen') := by
  have e1 : Sre.inSet reCode c 34 5 true seen = Sre.inSet reCode c 33 6 false (seen.add 21) := rfl
  have e2 : ∀ sn, Sre.inSet reCode c 33 6 false sn = if (decide (c < 256) && (reCode.getD (6 + (1 + c / 32)) 0).testBit (c % 32)) = true then .ok (false, sn.add 9) else Sre.inSet reCode c 32 15 false (sn.add 9) := fun _ => rfl
  have e3 : ∀ sn, Sre.inSet reCode c 32 15 false sn = (do if ← Sre.category 4 c then pure (false, (sn.add 8).add 59) else Sre.inSet reCode c 31 17 false ((sn.add 8).add 59)) := fun _ => rfl
  have e4 : ∀ sn, Sre.inSet reCode c 31 17 false sn = .ok (true, sn.add 0) := fun _ => rfl
  have e5 : Sre.category 4 c = .ok (Sre.isWord c) := by
    show Except.map (fun x => x != false) (.ok (Sre.isWord c)) = _
    show Except.ok (Sre.isWord c != false) = _
    cases Sre.isWord c <;> rfl
  rw [e1, e2, e3, e5, e4]
  have e6 : (6 + (1 + c / 32)) = 7 + c / 32 := by omega
  rw [e6]
  unfold unsafeC chB
  cases (decide (c < 256) && (reCode.getD (7 + c / 32) 0).testBit (c % 32)) with
  | true => exact ⟨_, rfl⟩
  | false =>
    cases Sre.isWord c with
    | true => exact ⟨_, rfl⟩
    | false => exact ⟨_, rfl⟩
theorem inSet20 (c : Nat) (seen : Sre.Seen) : ∃ seen', Sre.inSet reCode c 34 20 true seen = .ok (unsafeC c, seen') := by
  have e1 : Sre.inSet reCode c 34 20 true seen = Sre.inSet reCode c 33 21 false (seen.add 21) := rfl
  have e2 : ∀ sn, Sre.inSet reCode c 33 21 false sn = if (decide (c < 256) && (reCode.getD (21 + (1 + c / 32)) 0).testBit (c % 32)) = true then .ok (false, sn.add 9) else Sre.inSet reCode c 32 30 false (sn.add 9) := fun _ => rfl
  have e3 : ∀ sn, Sre.inSet reCode c 32 30 false sn = (do if ← Sre.category 4 c then pure (false, (sn.add 8).add 59) else Sre.inSet reCode c 31 32 false ((sn.add 8).add 59)) := fun _ => rfl
  have e4 : ∀ sn, Sre.inSet reCode c 31 32 false sn = .ok (true, sn.add 0) := fun _ => rfl
  have e5 : Sre.category 4 c = .ok (Sre.isWord c) := by
    show Except.map (fun x => x != false) (.ok (Sre.isWord c)) = _
    show Except.ok (Sre.isWord c != false) = _
    cases Sre.isWord c <;> rfl
  rw [e1, e2, e3, e5, e4]
  have e6 : (decide (c < 256) && (reCode.getD (21 + (1 + c / 32)) 0).testBit (c % 32)) = chB c := by
    unfold chB
    by_cases h : c < 256
    · have := getD_shift (c / 32) (by omega)
      have e : 21 + (1 + c / 32) = 22 + c / 32 := by omega
      rw [e, this]
    · simp [h]
  rw [e6]
  unfold unsafeC
  cases chB c with
  | true => exact ⟨_, rfl⟩
  | false =>
    cases Sre.isWord c with
    | true => exact ⟨_, rfl⟩
    | false => exact ⟨_, rfl⟩

theorem admitted_spec (m : Sre.M) (hc : m.code = reCode) : ∀ (fuel s : Nat) (seen : Sre.Seen), m.lim ≤ s + fuel →
    (∃ seen', Sre.M.admitted m fuel s seen = .ok (none, seen') ∧ ∀ i, s ≤ i → i < m.lim → unsafeC (m.text.getD i 0) = false) ∨
    (∃ i seen', Sre.M.admitted m fuel s seen = .ok (some i, seen') ∧ s ≤ i ∧ i < m.lim ∧ unsafeC (m.text.getD i 0) = true)
  | 0, s, seen, h => .inl ⟨seen, rfl, fun i h1 h2 => by omega⟩
  | fuel + 1, s, seen, h => by
    unfold Sre.M.admitted
    by_cases hs : s ≥ m.lim
    · rw [if_pos hs]
      exact .inl ⟨seen, rfl, fun i h1 h2 => by omega⟩
    · rw [if_neg hs, hc]
      obtain ⟨seen', e⟩ := inSet5 (m.text.getD s 0) seen
      have e' : Sre.inSet reCode (m.text.getD s 0) reCode.size 5 true seen = .ok (unsafeC (m.text.getD s 0), seen') := e
      rw [e']
      cases hu : unsafeC (m.text.getD s 0) with
      | true => exact .inr ⟨s, seen', rfl, Nat.le_refl _, by omega, hu⟩
      | false =>
        rcases admitted_spec m hc fuel (s + 1) seen' (by omega) with ⟨sn, e2, h2⟩ | ⟨i, sn, e2, h2, h3, h4⟩
        · refine .inl ⟨sn, e2, fun i h3 h4 => ?_⟩
          by_cases hi : i = s
          · rw [hi, hu]
          · exact h2 i (by omega) h4
        · exact .inr ⟨i, sn, e2, by omega, h3, h4⟩

theorem step_in (text : Array Nat) (lim start lastStart pos handed : Nat) (marks : Array (Option Nat)) (lastmark lastindex : Int) (f : Sre.Frame) (weight : Nat) (seen : Sre.Seen) (hp : pos < lim) (hu : unsafeC (text.getD pos 0) = true) :
    ∃ sn, Sre.M.step { code := reCode, text, lim, start, lastStart, pc := 18, pos, handed, marks, lastmark, lastindex, frames := [f], weight, seen } =
      { code := reCode, text, lim, start, lastStart, pc := 33, pos := pos + 1, handed, marks, lastmark, lastindex, frames := [f], weight, seen := sn } := by
  obtain ⟨sn, e⟩ := inSet20 (text.getD pos 0) (seen.add 13)
  refine ⟨sn, ?_⟩
  have e1 : Sre.M.step { code := reCode, text, lim, start, lastStart, pc := 18, pos, handed, marks, lastmark, lastindex, frames := [f], weight, seen } =
    (if pos ≥ lim then Sre.M.say { code := reCode, text, lim, start, lastStart, pc := 18, pos, handed, marks, lastmark, lastindex, frames := [f], weight, seen := seen.add 13 } false else
      match Sre.inSet reCode (text.getD pos 0) 34 20 true (seen.add 13) with
      | .error why => Sre.M.stick { code := reCode, text, lim, start, lastStart, pc := 18, pos, handed, marks, lastmark, lastindex, frames := [f], weight, seen := seen.add 13 } why
      | .ok (false, sn) => Sre.M.say { code := reCode, text, lim, start, lastStart, pc := 18, pos, handed, marks, lastmark, lastindex, frames := [f], weight, seen := sn } false
      | .ok (true, sn) => { code := reCode, text, lim, start, lastStart, pc := 18 + 15, pos := pos + 1, handed, marks, lastmark, lastindex, frames := [f], weight, seen := sn }) := rfl
  rw [e1, if_neg (by omega), e, hu]

theorem run_some (text : Array Nat) (lim start lastStart pos handed : Nat) (marks : Array (Option Nat)) (lastmark lastindex : Int) (fp : Nat) (weight : Nat) (seen : Sre.Seen) (hp : pos < lim) (hu : unsafeC (text.getD pos 0) = true) :
    (Sre.M.runFor 4 { code := reCode, text, lim, start, lastStart, pc := 18, pos, handed, marks, lastmark, lastindex, frames := [{ wait := .nextStart, pc := 18, pos := fp, outermost := true }], weight, seen }).outcome = some .matched := by
  obtain ⟨sn, e⟩ := step_in text lim start lastStart pos handed marks lastmark lastindex { wait := .nextStart, pc := 18, pos := fp, outermost := true } weight seen hp hu
  show (Sre.M.runFor 3 (Sre.M.step _)).outcome = _
  rw [e]
  rfl

theorem search_eq (text : Array Nat) : ∃ m : Sre.M, Sre.forSearch reCode text 0 0 text.size false = (if ((0 > text.size) || decide (text.size - 0 < 1)) = true then m.say false else Sre.M.attemptFrom { m with lastStart := text.size } 0 true) ∧
    m = { code := reCode, text := text, lim := text.size, start := 0, pc := 18, pos := 0, handed := 0, marks := #[], mustAdvance := false, seen := ({} : Sre.Seen).add 14 } := by
  refine ⟨_, ?_, rfl⟩
  simp only [Sre.forSearch]
  rfl

theorem search_outcome (text : Array Nat) :
    ((∀ i, i < text.size → unsafeC (text.getD i 0) = false) ∧ (Sre.M.runFor 4 (Sre.forSearch reCode text 0 0 text.size false)).outcome = some .failed) ∨
    ((∃ i, i < text.size ∧ unsafeC (text.getD i 0) = true) ∧ (Sre.M.runFor 4 (Sre.forSearch reCode text 0 0 text.size false)).outcome = some .matched) := by
  obtain ⟨m, e, hm⟩ := search_eq text
  rw [e]
  by_cases h0 : text.size = 0
  · left
    refine ⟨fun i hi => by omega, ?_⟩
    rw [if_pos (by simp [h0])]
    subst hm
    rfl
  · rw [if_neg (by rw [decide_eq_false (by omega : ¬ 0 > text.size), decide_eq_false (by omega : ¬ text.size - 0 < 1)]; exact Bool.false_ne_true)]
    have ha : Sre.M.attemptFrom { m with lastStart := text.size } 0 true = (match Sre.M.admitted { m with lastStart := text.size } (text.size + 1 - 0) 0 (({} : Sre.Seen).add 14) with
      | .ok (some s, seen) => Sre.M.attemptAt { m with lastStart := text.size, mustAdvance := false, seen } s true
      | .ok (none, seen) => Sre.M.say { m with lastStart := text.size, seen } false
      | .error why => Sre.M.stick { m with lastStart := text.size } why) := by
      subst hm
      rfl
    rw [ha]
    rcases admitted_spec { m with lastStart := text.size } (by subst hm; rfl) (text.size + 1 - 0) 0 (({} : Sre.Seen).add 14) (by subst hm; show text.size ≤ _; omega) with ⟨sn, e2, h2⟩ | ⟨i, sn, e2, h2, h3, h4⟩
    · left
      rw [e2]
      subst hm
      exact ⟨fun i hi => h2 i (Nat.zero_le _) hi, rfl⟩
    · right
      rw [e2]
      subst hm
      exact ⟨⟨i, h3, h4⟩, run_some text text.size i text.size i i #[] (-1) (-1) i 1 sn h3 h4⟩
end
section
open PySem PySem.W PySem.Calls PySem.Spec PyProof.Rows PySem.Builtin.Re
set_option maxRecDepth 100000
set_option maxHeartbeats 400000
section
variable {M : Model} {A : Around} {E : Value → Shared → Prop} {s : Shared}
theorem named_eq (v : Value) : reNamed "re.Pattern.search" "search" ["string", "pos", "endpos"] 1 [v] [] = pure [some v, none, none] := rfl
def patObj : Obj := ⟨.type "re.Pattern", none, .fields #[.str (Str.ofString "[^\\w@%+=:,./-]") 342, .int 256 379, .int 0 0, .none, .none, .ref 55, .int 0 0], #[]⟩
def codeObj : Obj := ⟨.type "tuple", none, .seq #[.int 14 0, .int 17 0, .int 4 0, .int 1 0, .int 1 0, .int 21 0, .int 9 0, .int 0 0, .int 604043296 0, .int 1 0, .int 0 0, .int 0 0, .int 0 0, .int 0 0, .int 0 0, .int 8 0, .int 4 0, .int 0 0, .int 13 0, .int 14 0, .int 21 0, .int 9 0, .int 0 0, .int 604043296 0, .int 1 0, .int 0 0, .int 0 0, .int 0 0, .int 0 0, .int 0 0, .int 8 0, .int 4 0, .int 0 0, .int 1 0] 0, #[]⟩
theorem target_wp {x : Str} {t : Tok} {Q : ReTarget → Shared → Prop} (h56 : s.heap.get? 56 = some patObj) (h55 : s.heap.get? 55 = some codeObj) (hx : x.cps.size ≤ 1000000)
    (h : Q { pattern := .ref 56, string := .str x t, code := reCode, text := x.cps, kind := 0, groups := 0, pos := 0, lim := x.cps.size } s) :
    wpAny M A (reTarget "re.Pattern.search" "search" ⟨[.ref 56, .str x t], []⟩) Q E s := by
  unfold reTarget
  dsimp only
  rw [named_eq]
  refine wpAny_bind (wpAny_pure ?_)
  dsimp only
  refine wpAny_bind (wpAny_pure (wpAny_bind (wpAny_pure ?_)))
  refine wpAny_bind (wpAny_fieldsOf h56 rfl ?_)
  refine wpAny_bind (m := reTextOf (.str x t)) ?_
  show wpAny M A (pure (x.cps, 0)) _ E s
  refine wpAny_pure ?_
  dsimp only
  rw [if_neg (by decide), if_neg (by decide)]
  refine wpAny_bind (m := reNoCollectionInside (.str x t) 0) ?_
  show wpAny M A (pure ()) _ E s
  refine wpAny_pure ?_
  refine wpAny_bind (m := reRawItems (.ref 55)) ?_
  unfold reRawItems
  refine wpAny_bind (wpAny_seqItems h55 rfl (wpAny_pure ?_))
  dsimp only
  refine wpAny_pure ?_
  have e1 : min ((2 : Int) ^ 63 - 1).toNat x.cps.size = x.cps.size := by
    have : ((2 : Int) ^ 63 - 1).toNat = 9223372036854775807 := by decide
    rw [this]; omega
  have e2 : min (Int.toNat 0) x.cps.size = 0 := Nat.zero_min _
  rw [e1, e2]
  have e3 : ∀ c, c = reCode → Q { pattern := .ref 56, string := .str x t, code := c, text := x.cps, kind := 0, groups := 0, pos := 0, lim := x.cps.size } s := fun c hc => hc ▸ h
  exact e3 _ (by decide +kernel)

theorem forRules {c : Nat → Bool} {g : Nat → String} {Q : PUnit → Shared → Prop} (h : Q ⟨⟩ s) : ∀ l : List Nat,
    wpAny M A (forIn l PUnit.unit fun i r => (do if c i = true then (do rule (g i); pure (ForInStep.yield PUnit.unit)) else pure (ForInStep.yield PUnit.unit) : Sem (ForInStep PUnit))) Q E s
  | [] => wpAny_pure h
  | i :: r => by
    rw [List.forIn_cons]
    refine wpAny_bind ?_
    split
    · exact wpAny_bind (wpAny_rule (wpAny_pure (forRules h r)))
    · exact wpAny_pure (forRules h r)

theorem drive_succ (n : Nat) (m : Sre.M) : reDrive (n + 1) m = (if (m.runFor 4).outcome.isSome = true then pure (m.runFor 4) else do rule "sre.turn"; reDrive n (m.runFor 4)) := rfl
theorem runToEnd_wp {m : Sre.M} {Q : Option Sre.M → Shared → Prop} (h : ((m.runFor 4).outcome = some .failed ∧ Q none s) ∨ ((m.runFor 4).outcome = some .matched ∧ Q (some (m.runFor 4)) s)) :
    wpAny M A (reRunToEnd m) Q E s := by
  unfold reRunToEnd
  have e0 : (2 : Nat) ^ 64 = 18446744073709551615 + 1 := by decide
  rw [e0, drive_succ]
  have hs : (m.runFor 4).outcome.isSome = true := by rcases h with ⟨h, _⟩ | ⟨h, _⟩ <;> rw [h] <;> rfl
  rw [if_pos hs]
  refine wpAny_bind (wpAny_pure (wpAny_bind (forRules ?_ _)))
  rcases h with ⟨h, hq⟩ | ⟨h, hq⟩
  · rw [h]; exact wpAny_pure hq
  · rw [h]; exact wpAny_pure hq

theorem search_wp {x : Str} {t : Tok} {Q : Fin → Shared → Prop} (h56 : s.heap.get? 56 = some patObj) (h55 : s.heap.get? 55 = some codeObj) (hx : x.cps.size ≤ 1000000)
    (hN : (∀ i, i < x.cps.size → unsafeC (x.cps.getD i 0) = false) → Q (.done (.ret .none)) s)
    (hS : (∃ i, i < x.cps.size ∧ unsafeC (x.cps.getD i 0) = true) → ∀ a h', (∀ b o, s.heap.get? b = some o → h'.get? b = some o) → Q (.done (.ret (.ref a))) { s with heap := h' }) :
    wpAny M A (Builtin.«re.Pattern.search» ⟨[.ref 56, .str x t], []⟩) Q E s := by
  unfold Builtin.«re.Pattern.search»
  refine wpAny_bind (target_wp h56 h55 hx ?_)
  dsimp only
  unfold reAnswer
  refine wpAny_bind (runToEnd_wp ?_)
  rcases search_outcome x.cps with ⟨h1, h2⟩ | ⟨h1, h2⟩
  · exact .inl ⟨h2, wpAny_pure (hN h1)⟩
  · refine .inr ⟨h2, ?_⟩
    dsimp only
    refine wpAny_bind ?_
    unfold reNewMatch
    dsimp only [List.range, List.range.loop, List.flatMap_nil, List.any_nil]
    refine wpAny_bind (wpAny_newTuple ?_ (by simp [List.flatMap]; decide))
    refine wpAny_newObj_type ?_ (by show (6 : Nat) ≤ sizeLine + 2; decide)
    refine wpAny_pure (hS h1 _ _ fun b o e => Heap.get?_push_of_some _ (Heap.get?_push_of_some _ e))
end
section
variable {prog : Program} {w : World} {A : Around} {E : Value → Shared → Prop} {s : Shared} {K : Frag}
def findObj : Obj := ⟨.type "builtin_function_or_method", none, .fields #[.builtin "re.Pattern.search", .ref 56], #[]⟩
theorem entry_search : entryFor table "re.Pattern.search" = some Builtin.«re.Pattern.search» := entryFor_of_tree (by kernel_rfl)
theorem kind_search : builtinKind "re.Pattern.search" = some .method := by rw [builtinKind_eq_fast]; kernel_rfl
theorem owner_rePattern : Manifest.owners.lookup (String.ofList ['n', 'r', 'e', 't', 't', 'a', 'P', '.', 'e', 'r'].reverse) = some Manifest.sig_re_Pattern := by kernel_rfl
theorem sig_search : Manifest.signature? "re.Pattern.search" = Manifest.sig_re_Pattern.lookup "search" := by
  rw [signature?_of (id := "re.Pattern.search") (n := ['h', 'c', 'r', 'a', 'e', 's']) (o := ['n', 'r', 'e', 't', 't', 'a', 'P', '.', 'e', 'r']) (by kernel_rfl) owner_rePattern]
  rfl
theorem sig_search2 : ∃ sig, Manifest.sig_re_Pattern.lookup "search" = some sig ∧ ∀ (v u : Value), Bind.checkArgs "re.Pattern.search" { sig with full := toString (Bind.lastOf "re.Pattern") ++ toString "." ++ toString (Bind.lastOf "re.Pattern.search") } ⟨[v, u], []⟩ = pure () := by
  refine ⟨_, rfl, ?_⟩
  intro v u
  kernel_rfl
theorem check_search {x : Str} {t : Tok} {Q : Unit → Shared → Prop} (h56 : s.heap.get? 56 = some patObj) (h : Q () s) :
    wpAny (model prog w) A (checkBoundCall "re.Pattern.search" ⟨[.ref 56, .str x t], []⟩) Q E s := by
  obtain ⟨sig, hs, hc⟩ := sig_search2
  unfold checkBoundCall
  rw [kind_search, sig_search, hs]
  dsimp only
  rw [if_neg (by decide)]
  have hT : s.TypeIs (.ref 56) "re.Pattern" := ⟨_, h56, rfl⟩
  refine wpAny_bind (wpAny_isInstance hT (b := false) (by rw [isSubtype_type]; kernel_rfl) ?_)
  rw [show Manifest.varargsMethods.contains "re.Pattern.search" = false from by decide +kernel]
  rw [if_neg (by decide)]
  refine wpAny_bind (m := isType (.ref 56)) ?_
  unfold isType
  refine wpAny_bind (wpAny_loadPart h56 ?_)
  refine wpAny_pure ?_
  dsimp only [patObj]
  rw [if_neg (by decide)]
  refine wpAny_bind (wpAny_typeOf hT ?_)
  exact wpAny_of_eq (hc _ _) h

theorem codeAny_bi {id : String} {args : Args} {b : Builtin} {R : Result → Shared → Prop} (hb : entryFor table id = some b)
    (h : wpAny (model prog w) (A.under (.builtin id args)) (b args) (fun fin s' => match fin with | .done f => R (.ok f) s' | .again c' => c'.quiet = true ∧ codeAny (model prog w) A c' R s') (fun e s' => R (.error e) s') s) :
    codeAny (model prog w) A (.builtin id args) R s := by
  refine codeAny_of_tree ?_
  show wpAny _ _ (match entryFor table id with | some b => b args | none => unsupported ((withoutEnding? id "#data").getD id)) _ _ s
  rw [hb]; exact h
theorem find_call {x : Str} {t : Tok} {Q : Value → Shared → Prop} (h759 : s.heap.get? 759 = some findObj) (h56 : s.heap.get? 56 = some patObj) (h55 : s.heap.get? 55 = some codeObj) (hx : x.cps.size ≤ 1000000)
    (hN : (∀ i, i < x.cps.size → unsafeC (x.cps.getD i 0) = false) → Q .none s)
    (hS : (∃ i, i < x.cps.size ∧ unsafeC (x.cps.getD i 0) = true) → ∀ a h', (∀ b o, s.heap.get? b = some o → h'.get? b = some o) → Q (.ref a) { s with heap := h' }) :
    wpAny (model prog w) A (call (.ref 759) [.str x t]) Q E s := by
  refine wpAny_call (codeAny_of_tree ?_)
  show wpAny _ _ (callAny (.ref 759) ⟨[.str x t], []⟩) _ _ s
  unfold callAny
  refine wpAny_bind (wpAny_load h759 ?_)
  dsimp only [findObj]
  rw [if_pos (by decide)]
  show wpAny _ _ (if (Value.type "builtin_function_or_method" != Value.type "method") = true then (do
      checkBoundCall "re.Pattern.search" ⟨[.ref 56, .str x t], []⟩
      again (Code.builtin "re.Pattern.search" ⟨[.ref 56, .str x t], []⟩)) else again (Code.call (.builtin "re.Pattern.search") ⟨[.ref 56, .str x t], []⟩)) _ _ s
  rw [if_pos (by decide)]
  refine wpAny_bind (check_search h56 (wpAny_pure ⟨Code.quiet_builtin _ (by decide +kernel), codeAny_bi entry_search (search_wp h56 h55 hx hN hS)⟩))

theorem callWith_find {env : Env} {pos : Pos} {e : Expr} {Q : Value → Shared → Prop}
    (h : wpAny (model prog w) A (eval e env) (fun v s₁ => s₁.heap.get? 759 = some findObj ∧ wpAny (model prog w) A (call (.ref 759) [v]) Q E s₁) E s)
    (he : starEach [e] env = [(false, eval e env)] := by rfl) :
    wpAny (model prog w) A (callWith pos (.ref 759) [] (backTo pos (starEach [e] env)) []) Q E s := by
  rw [he]
  refine callWith_of (P := fun h => h.get? 759 = some findObj) rfl (fun h hP => ⟨.machine, .inr (.inl rfl), ?_⟩) (evalArgs_plain ?_)
  · intro A Q E s k q
    show wpAny _ _ (keeperOf (.ref 759)) _ _ _
    unfold keeperOf
    exact wpAny_bind (wpAny_load (k _ _ hP) (wpAny_pure q))
  · refine spliced_cons (wpAny_mono ?_ (fun _ _ h₁ => spliced_nil h₁) fun _ _ e => e)
    exact h
end
end
section
open PySem PySem.W PySem.Calls PySem.Spec PyProof.Rows
set_option maxRecDepth 100000
set_option maxHeartbeats 0
def quoteF (x : Str) : Str :=
  if x = Str.ofString "" then Str.ofString "''"
  else if x.cps.toList.any unsafeC = true then Str.ofString "'" ++ Txt.replace x (Str.ofString "'") (Str.ofString "'\"'\"'") ++ Str.ofString "'"
  else x

theorem anyC_iff (x : Str) : x.cps.toList.any unsafeC = true ↔ ∃ i, i < x.cps.size ∧ unsafeC (x.cps.getD i 0) = true := by
  rw [List.any_eq_true]
  constructor
  · rintro ⟨c, hc, hu⟩
    obtain ⟨i, hi, rfl⟩ := List.getElem_of_mem hc
    refine ⟨i, by simpa using hi, ?_⟩
    have hi' : i < x.cps.size := by simpa using hi
    simpa [Array.getD, hi'] using hu
  · rintro ⟨i, hi, hu⟩
    refine ⟨x.cps[i], by simp, ?_⟩
    simpa [Array.getD, hi] using hu

theorem c_quote {w : World} {p : Program} {loose : List Str} {mg mb : Str → Option Value} {A : Around} {s : Shared} {Q E : Value → Shared → Prop} {x : Str} {tk : Tok}
  (hh : A.handled = none) (hroom : A.depth + 10 < recursionLimit) (hun : A.units + 100 < cLine) (KX : (Mine.kFrag w.params).In s.heap) (T : TopRead p loose mg mb s.heap)
  (hx : x.length ≤ 1000)
  (h : ∀ t s', Keeps s s' → Q (.str (quoteF x) t) s') :
  wpAny (model (PySem.Challenge.rw_mj0255_01).prog w) A (call (.ref 766) [.str x tk]) Q E s := by
  revert KX
  k_fill
  intro KX
  have h759 : (Mine.kFrag w.params).lookup 759 = some findObj := by k_is
  have h56 : (Mine.kFrag w.params).lookup 56 = some patObj := by k_is
  have h55 : (Mine.kFrag w.params).lookup 55 = some codeObj := by k_is
  refine wpAny_call ?_
  walk_at "m enter0"
  intro h₁ F N
  (try dsimp only)
  walk_at "m go"
  · refine callWith_find ?_
    walk1
    have hne : x ≠ Str.ofString "" := by
      intro e; rename ((x.length : Int) ≠ 0) => h0; rw [e] at h0; exact h0 (by decide +kernel)
    refine ⟨F.keep _ _ (KX _ _ h759), find_call (F.keep _ _ (KX _ _ h759)) (F.keep _ _ (KX _ _ h56)) (F.keep _ _ (KX _ _ h55)) (by have : x.cps.size = x.length := rfl; omega) ?_ ?_⟩
    · intro hall
      have hq : quoteF x = x := by
        unfold quoteF
        rw [if_neg hne, if_neg]
        rw [anyC_iff]
        rintro ⟨i, hi, hu⟩
        rw [hall i hi] at hu; cases hu
      rw [hq] at h
      walk_at "m go"
      dsimp only
      exact h _ _ (keepsOf (by assumption) rfl)
    · intro hex a h2 hk2
      have hq : quoteF x = Str.ofString "'" ++ Txt.replace x (Str.ofString "'") (Str.ofString "'\"'\"'") ++ Str.ofString "'" := by
        unfold quoteF
        rw [if_neg hne, if_pos]
        rw [anyC_iff]
        exact hex
      rw [hq] at h
      have F2 := F.keeps hk2
      have N2 := News.grown N hk2
      clear F N
      have hlr : (Txt.replace x (Str.ofString "'") (Str.ofString "'\"'\"'")).length ≤ 6005 := by
        have h1 := len_replace x (Str.ofString "'") (Str.ofString "'\"'\"'")
        rw [show (Str.ofString "'\"'\"'").length = 5 from by decide +kernel] at h1
        omega
      walk_at "m go"
      dsimp only
      exact h _ _ (keepsOf F2 rfl)
  · have he : x = Str.ofString "" := by
      rename ((x.length : Int) = 0) => h0
      have : x.cps = #[] := Array.eq_empty_of_size_eq_zero (by have : x.cps.size = x.length := rfl; omega)
      rw [show Str.ofString "" = ⟨#[]⟩ from by decide +kernel]
      obtain ⟨c⟩ := x
      simp only at this
      rw [this]
    have hq : quoteF x = Str.ofString "''" := by unfold quoteF; rw [if_pos he]
    rw [hq] at h
    dsimp only
    exact h _ _ (keepsOf F rfl)
end
section
open PySem PySem.W PySem.Calls PyProof.Rows
set_option maxRecDepth 100000
set_option maxHeartbeats 0
section
variable {prog : Program} {w : World} {A : Around} {s : Shared} {K : Frag} {R : Result → Shared → Prop} {name qual : Str} {params : Arguments} {body : List Stmt} {scope : Scope} {dV kV doc pm cdv ct oc : Value} {an od : Option Addr} {osl : Array (Option Value)} {f : Addr} {args : Args}
abbrev tupO (vs : List Value) : Obj := { cls := .type "tuple", data := .seq vs.toArray }
theorem enterV {vs : List Value} {binds : Value → List (Str × Value)} (X : K.In s.heap) (hlim : s.heap.NoLimit)
    (ho : K.lookup f = some ⟨oc, od, .func (fnOf name qual params body scope dV kV doc pm an cdv ct), osl⟩) (hcd : codeIn K cdv qual = true) (hroom : A.depth < recursionLimit)
    (hbind : bindArgs (fnOf name qual params body scope dV kV doc pm an cdv ct) args = (newTuple vs >>= fun t => pure (binds t))) (hloc : ∀ t, ∀ y ∈ binds t, scope.names.lookup y.1 = some .local) (hn : vs.length ≤ 100)
    (h : ∀ D L h₁ tk, Fr s.heap L h₁ (fun y => (binds (.ref D)).reverse.lookup y) → News s.heap L h₁ [(D, tupO vs)] →
      wpAny (model prog w) (A.deeper (envOf qual scope L f cdv)) (execs body (envOf qual scope L f cdv))
        (fun fl s' => R (.ok (.ret (match fl with | .ret v => v | _ => .none))) s')
        (fun e s' => wpAny (model prog w) (A.deeper (envOf qual scope L f cdv)) (leaving (envOf qual scope L f cdv) e) (fun _ s'' => R (.error e) s'') (fun e' s'' => R (.error e') s'') s')
        { s with heap := h₁, toks := tk })
    (hco : scope.isCoroutine = false) (hgen : scope.isGenerator = false) (hk : scope.kind = .function)
    (hcell : ∀ x ∈ scope.names, x.2 ≠ .cell) : codeAny (model prog w) A (.call (.ref f) args) R s := by
  refine codeAny_call_function hroom (X _ _ ho) rfl hco hgen rfl (codeRec_of X hcd) ?_
  rw [hbind]
  refine wpAny_bind (wpAny_newTuple (wpAny_pure ?_) (by rw [sizeLine_eq]; omega))
  refine wpAny_newFunctionEnv hcell (hloc _) (fun h₀ hns₀ hsb₀ => ⟨(hlim.keeps fun b o e => Heap.get?_push_of_some _ e).fresh _ hsb₀, codeAny_func ?_⟩) hk
  have up : ∀ b o, (s.heap.push (tupO vs)).get? b = some o → h₀.get? b = some o := fun b o e => hsb₀.extBut b o (Nat.ne_of_lt (Heap.lt_size e)) (Heap.get?_push_of_some _ e)
  refine h s.heap.objs.size _ h₀ _ ⟨hns₀, fun b o e => up b o (Heap.get?_push_of_some _ e), ?_⟩ ?_
  · show s.heap.objs.size ≤ (s.heap.push (tupO vs)).objs.size
    rw [Heap.size_push]; omega
  · intro p hp
    rw [List.mem_singleton] at hp
    subst hp
    refine ⟨up _ _ (Heap.get?_push_size _ rfl), ?_, ?_⟩
    · show s.heap.objs.size ≠ (s.heap.push (tupO vs)).objs.size
      rw [Heap.size_push]; omega
    · cases q : s.heap.get? s.heap.objs.size with
      | none => rfl
      | some o' => exact absurd (Heap.lt_size q) (Nat.lt_irrefl _)
end
end
local macro_rules | `(tactic| walk_at "m gos") => `(tactic| repeat' ((fail_if_success (with_reducible show wpAny _ _ (subscriptTail _ _ _ _) _ _ _)); (fail_if_success (with_reducible show wpAny _ _ (truthy (Value.ref _)) _ _ _)); (walk_at "m step")))
section
open PySem PySem.W PySem.Calls PySem.Spec PyProof.Rows
set_option maxRecDepth 100000
set_option maxHeartbeats 0
def rep1 (x a b : Str) : Str := Txt.join b (Txt.split x a)
def replF (x : Str) : List (Str × Str) → Str
  | [] => x
  | p :: r => replF (rep1 x p.1 p.2) r
def flatP : List (Str × Str) → List Str
  | [] => []
  | p :: r => p.1 :: p.2 :: flatP r

theorem strsAre_vals : ∀ l : List (Str × Tok), StrsAre (strValues l) (l.map (·.1))
  | [] => .nil
  | p :: r => .cons p.1 p.2 (strsAre_vals r)
def InFr (s₀ : Shared) (h₀ : Heap) (L : Addr) (m : Str → Option Value) (news : List (Addr × Obj)) (s : Shared) : Prop := ∃ h tk, s = { s₀ with heap := h, toks := tk } ∧ Fr h₀ L h m ∧ News h₀ L h news
section
variable {prog : Program} {w : World} {A : Around} {E : Value → Shared → Prop} {s : Shared} {Q : Value → Shared → Prop}
theorem split_strs {h₀ : Heap} {L : Addr} {m : Str → Option Value} {news : List (Addr × Obj)} {x y : Str} {t u : Tok} (F : Fr h₀ L s.heap m) (N : News h₀ L s.heap news) (hx : x.length ≤ 1000000) (hy : 1 ≤ y.length)
    (h : ∀ D vs h' tk, Fr h₀ L h' m → News h₀ L h' news → h'.IsList D (List.toArray vs) → StrsAre vs (Txt.split x y) → Q (.ref D) { s with heap := h', toks := tk }) :
    wpAny (model prog w) A (call (.builtin "str.split") [.str x t, .str y u]) Q E s := by
  refine SCG.split1 (Fm := InFr s h₀ L m news) ?_ ⟨s.heap, s.toks, rfl, F, N⟩ (by simp; omega) ?_ (by rw [sizeLine_eq]; omega) (by have := parts_len x y; rw [sizeLine_eq]; omega)
  · rintro s' ob k ⟨h, tk, rfl, F', N'⟩
    exact ⟨_, _, rfl, F'.push _, fun p hp => ⟨Heap.get?_push_of_some _ (N' p hp).1, (N' p hp).2⟩⟩
  · rintro D l s' hl ⟨h', tk, rfl, F', N'⟩ hD
    refine h D (strValues l) h' tk F' N' hD ?_
    rw [← hl]
    exact strsAre_vals l
end
abbrev PQ := (Str × Tok) × (Str × Tok)
def pv : List PQ → List Value
  | [] => []
  | q :: r => .str q.1.1 q.1.2 :: .str q.2.1 q.2.2 :: pv r
def ps (qs : List PQ) : List (Str × Str) := qs.map fun q => (q.1.1, q.2.1)
def limR : Nat → Nat
  | 0 => 1000000
  | 1 => 30000
  | _ => 1000
def mR (D : Addr) (x : Str) (t : Tok) : Str → Option Value := fun y => if y = Str.ofString "pairs" then some (.ref D) else if y = Str.ofString "text" then some (.str x t) else none
def JR (R : Str) (n : Nat) (m₁ : Str → Option Value) (news₁ : List (Addr × Obj)) : Prop :=
  ∃ x t D qs, n = List.length qs ∧ qs.length ≤ 2 ∧ x.length ≤ limR n ∧ replF x (ps qs) = R ∧ (∀ q ∈ qs, 1 ≤ q.1.1.length ∧ q.2.1.length ≤ 20) ∧ m₁ = mR D x t ∧ news₁ = [(D, tupO (pv qs))]

def RSpec (w : World) (body : List Stmt) (scope : Scope) : Prop :=
  ∀ {p : Program} {loose : List Str} {mg mb : Str → Option Value} {A : Around} {s : Shared} {Q E : Value → Shared → Prop} {x : Str} {t : Tok} {qs : List PQ} {D L : Addr} {h₁ : Heap} {tkE : Nat},
    A.handled = none → A.depth + 10 < recursionLimit → A.units + 100 < cLine → (Mine.kFrag w.params).In s.heap → TopRead p loose mg mb s.heap →
    qs.length ≤ 2 → x.length ≤ limR qs.length → (∀ q ∈ qs, 1 ≤ q.1.1.length ∧ q.2.1.length ≤ 20) → Fr s.heap L h₁ (mR D x t) → News s.heap L h₁ [(D, tupO (pv qs))] →
    (∀ t s', Keeps s s' → Q (.str (replF x (ps qs)) t) s') →
    wpAny (model (PySem.Challenge.rw_mj0255_01).prog w) (A.deeper (envOf (Str.ofString "replace") scope L 51 (.ref 50))) (execs body (envOf (Str.ofString "replace") scope L 51 (.ref 50)))
        (fun fl s' => Q (match fl with | .ret v => v | _ => .none) s')
        (fun e s' => wpAny (model (PySem.Challenge.rw_mj0255_01).prog w) (A.deeper (envOf (Str.ofString "replace") scope L 51 (.ref 50))) (leaving (envOf (Str.ofString "replace") scope L 51 (.ref 50)) e) (fun _ s'' => E e s'') (fun e' s'' => E e' s'') s')
        { s with heap := h₁, toks := tkE }
def RFn (w : World) : Prop := ∃ oc od params body scope dV kV doc pm an ct osl,
  (Mine.kFrag w.params).lookup 51 = some ⟨oc, od, .func (fnOf (Str.ofString "replace") (Str.ofString "replace") params body scope dV kV doc pm an (.ref 50) ct), osl⟩ ∧ codeIn (Mine.kFrag w.params) (.ref 50) (Str.ofString "replace") = true ∧
  scope.isCoroutine = false ∧ scope.isGenerator = false ∧ scope.kind = .function ∧ (∀ x ∈ scope.names, x.2 ≠ .cell) ∧ scope.names.lookup (Str.ofString "text") = some .local ∧ scope.names.lookup (Str.ofString "pairs") = some .local ∧
  (∀ v v1 v2, bindArgs (fnOf (Str.ofString "replace") (Str.ofString "replace") params body scope dV kV doc pm an (.ref 50) ct) ⟨[v, v1, v2], []⟩ = (newTuple [v1, v2] >>= fun t => pure [(Str.ofString "text", v), (Str.ofString "pairs", t)])) ∧
  (∀ v v1 v2 v3 v4, bindArgs (fnOf (Str.ofString "replace") (Str.ofString "replace") params body scope dV kV doc pm an (.ref 50) ct) ⟨[v, v1, v2, v3, v4], []⟩ = (newTuple [v1, v2, v3, v4] >>= fun t => pure [(Str.ofString "text", v), (Str.ofString "pairs", t)])) ∧
  RSpec w body scope
theorem mR_upd {D D' : Addr} {x x' : Str} {t t' : Tok} : (fun y => if y = Str.ofString "pairs" then some (Value.ref D') else if y = Str.ofString "text" then some (Value.str x' t') else if y = Str.ofString "pairs" then some (Value.ref D) else if y = Str.ofString "text" then some (Value.str x t) else none) = mR D' x' t' := by
  funext y
  unfold mR
  by_cases h1 : y = Str.ofString "pairs"
  · simp only [h1, if_true]
  · by_cases h2 : y = Str.ofString "text"
    · simp only [h1, h2, if_false, if_true]
    · simp only [h1, h2, if_false]
theorem mR_bind {D : Addr} {x : Str} {t : Tok} : (fun y => ([(Str.ofString "text", Value.str x t), (Str.ofString "pairs", Value.ref D)] : List (Str × Value)).reverse.lookup y) = mR D x t := by
  funext y
  unfold mR
  simp only [List.reverse_cons, List.reverse_nil, List.nil_append, List.cons_append, List.lookup_cons, List.lookup_nil]
  by_cases h1 : y = Str.ofString "pairs"
  · simp [h1]
  · by_cases h2 : y = Str.ofString "text"
    · simp [h2, show (Str.ofString "text" == Str.ofString "pairs") = false from by decide +kernel, show ¬ Str.ofString "text" = Str.ofString "pairs" from by decide +kernel]
    · rw [beq_eq_false_iff_ne.mpr h1, beq_eq_false_iff_ne.mpr h2, if_neg h1, if_neg h2]
theorem seqIdx {j n : Nat} (h : j < n) : seqIndex? (j : Int) n = some j := by
  unfold seqIndex?
  dsimp only
  rw [if_neg (by omega : ¬ (j : Int) < 0), if_pos (by simp; omega)]
  simp
theorem r_mk {w : World} {K : Frag} {oc od params body scope dV kV doc pm an ct osl} (e : K = Mine.kFrag w.params)
  (k1 : K.lookup 51 = some ⟨oc, od, .func (fnOf (Str.ofString "replace") (Str.ofString "replace") params body scope dV kV doc pm an (.ref 50) ct), osl⟩) (k2 : codeIn K (.ref 50) (Str.ofString "replace") = true)
  (k3 : scope.isCoroutine = false) (k4 : scope.isGenerator = false) (k5 : scope.kind = .function) (k6 : ∀ x ∈ scope.names, x.2 ≠ .cell) (k7 : scope.names.lookup (Str.ofString "text") = some .local) (k8 : scope.names.lookup (Str.ofString "pairs") = some .local)
  (k9 : ∀ v v1 v2, bindArgs (fnOf (Str.ofString "replace") (Str.ofString "replace") params body scope dV kV doc pm an (.ref 50) ct) ⟨[v, v1, v2], []⟩ = (newTuple [v1, v2] >>= fun t => pure [(Str.ofString "text", v), (Str.ofString "pairs", t)]))
  (k10 : ∀ v v1 v2 v3 v4, bindArgs (fnOf (Str.ofString "replace") (Str.ofString "replace") params body scope dV kV doc pm an (.ref 50) ct) ⟨[v, v1, v2, v3, v4], []⟩ = (newTuple [v1, v2, v3, v4] >>= fun t => pure [(Str.ofString "text", v), (Str.ofString "pairs", t)]))
  (k11 : RSpec w body scope) : RFn w := by
  subst e
  exact ⟨oc, od, params, body, scope, dV, kV, doc, pm, an, ct, osl, k1, k2, k3, k4, k5, k6, k7, k8, k9, k10, k11⟩
theorem r_body {w : World} (h₀ : Heap) (hw : (Mine.kFrag w.params).In h₀ → PySem.Challenge.rw_mj0255_01 = PySem.Challenge.rw_mj0255_01) : RFn w := by
  revert hw
  k_fill
  intro _
  k_dflt (refine' r_mk (w := w) (K := Mine.kFrag w.params) rfl ?k1 ?k2 ?k3 ?k4 ?k5 ?k6 ?k7 ?k8 ?k9 ?k10 ?k11; (case k1 => k_is); (case k2 => k_is); (case k3 => exact rfl); (case k4 => exact rfl); (case k5 => exact rfl); (case k6 => decide); (case k7 => exact rfl); (case k8 => exact rfl); (case k9 => (intros; with_unfolding_all rfl)); (case k10 => (intros; with_unfolding_all rfl)))
  intro p loose mg mb A s Q E x t qs D L h₁ tkE hh hroom hun KX T hq hx hqs F N h
  walk_at "m go"
  generalize hR : replF x (ps qs) = R at h
  refine While_inv2 (JR R) (n₀ := qs.length) F N ⟨x, t, D, qs, rfl, hq, hx, hR, hqs, rfl, rfl⟩ ?_
  clear F N hR hx hqs hq
  rintro n m₁ news₁ h2 tk2 F3 N3 ⟨x, t, D, qs, rfl, hq, hx, hR, hqs, rfl, rfl⟩
  cases qs with
  | nil =>
    unfold mR at F3
    unfold pv at N3
    walk_at "m go"
    dsimp only
    have e : x = R := hR
    subst e
    exact h _ _ (keepsOf (by assumption) rfl)
  | cons q r =>
    unfold mR at F3
    unfold pv at N3
    obtain ⟨⟨a, ta⟩, ⟨b, tb⟩⟩ := q
    have hab := hqs _ (.head _)
    dsimp only at hab N3
    walk_at "m go"
    have hr : r.length ≤ 1 := by simp at hq; omega
    have hx' : x.length ≤ 30000 := by
      simp only [List.length_cons] at hx
      have : limR (r.length + 1) ≤ 30000 := by
        rcases Nat.lt_or_ge r.length 1 with h1 | h1
        · rw [show r.length = 0 by omega]; exact Nat.le_refl _
        · rw [show r.length = 1 by omega]; show 1000 ≤ 30000; omega
      omega
    have hpv : (pv r).length ≤ 2 := by
      match r, hr with
      | [], _ => exact Nat.zero_le _
      | [_], _ => exact Nat.le_refl _
    rename Fr _ _ _ _ => F4
    rename News _ _ _ _ => N4
    refine truthy_tuple (News.isTup N4 (.head _)) (by simp only [List.size_toArray, List.length_cons]; omega) ?_
    refine ite_pos (by simp only [List.isEmpty_toArray, List.isEmpty_cons, Bool.not_false]) ?_
    walk_at "m gos"
    refine item_tupleT (j := 1) (News.isTup N4 (.head _)) (by decide) (by decide) (seqIdx (by simp only [List.length_cons]; omega)) rfl ?_
    walk_at "m gos"
    refine item_tupleT (j := 0) (News.isTup N4 (.head _)) (by decide) (by decide) (seqIdx (by simp only [List.length_cons]; omega)) rfl ?_
    walk_at "m gos"
    refine split_strs F4 N4 (by omega) hab.1 ?_
    intro Dl vs h5 tk5 F5 N5 hD5 hvs
    clear F4 N4
    walk_at "m gos"
    have hs1 := split_sum x a
    have hs2 := split_len x a
    have hs3 : (Txt.split x a).length * b.length ≤ 30002 * 20 := Nat.mul_le_mul (by omega) hab.2
    refine join_list hD5 (by simpa using hvs) (by omega) ?_
    intro tJ kJ
    walk_at "m gos"
    rename Fr _ _ _ _ => F6
    rename News _ _ _ _ => N6
    (with_unfolding_all refine slice_tuple_from (a := 2) F6 N6 (News.isTup N6 (.head _)) (by decide) (by simp only [List.size_toArray, List.length_cons]; omega) ?_ (hsz := by rw [sizeLine_eq]; simp only [List.size_toArray, List.length_cons]; omega))
    intro h7 F7 N7
    clear F6 N6
    walk_at "m gos"
    rename Fr _ _ _ _ => F8
    rename News _ _ _ _ => N8
    have hR' : replF (rep1 x a b) (ps r) = R := hR
    have hlen : (rep1 x a b).length ≤ limR r.length := by
      have h1 := len_joinsplit x a b
      have h2 : (x.length + 2) * b.length ≤ (x.length + 2) * 20 := Nat.mul_le_mul_left _ hab.2
      unfold rep1
      simp only [List.length_cons] at hx
      match r, hr with
      | [], _ => have hx2 : x.length ≤ 30000 := hx; show _ ≤ 1000000; omega
      | [_], _ => have hx2 : x.length ≤ 1000 := hx; show _ ≤ 30000; omega
    refine ⟨_, _, _, _, r.length, rfl, F8, (fun p hp => N8 p (by simp only [List.mem_singleton] at hp; rw [hp]; exact .head _)), Nat.lt_succ_self _, rep1 x a b, _, _, r, rfl, by omega, hlen, hR', fun q hq => hqs q (.tail _ hq), mR_upd, rfl⟩

theorem c_replace1 {w : World} {p : Program} {loose : List Str} {mg mb : Str → Option Value} {A : Around} {s : Shared} {Q E : Value → Shared → Prop} {x a b : Str} {tk ta tb : Tok}
  (hh : A.handled = none) (hroom : A.depth + 10 < recursionLimit) (hun : A.units + 100 < cLine) (KX : (Mine.kFrag w.params).In s.heap) (T : TopRead p loose mg mb s.heap)
  (hx : x.length ≤ 30000) (ha : 1 ≤ a.length) (hb : b.length ≤ 20)
  (h : ∀ t s', Keeps s s' → Q (.str (rep1 x a b) t) s') :
  wpAny (model (PySem.Challenge.rw_mj0255_01).prog w) A (call (.ref 51) [.str x tk, .str a ta, .str b tb]) Q E s := by
  obtain ⟨oc, od, params, body, scope, dV, kV, doc, pm, an, ct, osl, k1, k2, k3, k4, k5, k6, k7, k8, k9, k10, k11⟩ := r_body (w := w) s.heap (fun _ => rfl)
  refine wpAny_call (enterV KX T.nolimit k1 k2 (by omega) (k9 _ _ _) (fun t y hy => ?_) (by simp) (fun D L h₁ tkE F N => ?_) k3 k4 k5 k6)
  · rcases List.mem_cons.mp hy with rfl | hy
    · exact k7
    · rw [List.mem_singleton] at hy; subst hy; exact k8
  · rw [mR_bind] at F
    exact k11 (qs := [((a, ta), (b, tb))]) hh hroom hun KX T (by simp) hx (fun q hq => by rw [List.mem_singleton] at hq; subst hq; exact ⟨ha, hb⟩) F N h

theorem c_replace2 {w : World} {p : Program} {loose : List Str} {mg mb : Str → Option Value} {A : Around} {s : Shared} {Q E : Value → Shared → Prop} {x a b a' b' : Str} {tk ta tb ta' tb' : Tok}
  (hh : A.handled = none) (hroom : A.depth + 10 < recursionLimit) (hun : A.units + 100 < cLine) (KX : (Mine.kFrag w.params).In s.heap) (T : TopRead p loose mg mb s.heap)
  (hx : x.length ≤ 1000) (ha : 1 ≤ a.length) (hb : b.length ≤ 20) (ha' : 1 ≤ a'.length) (hb' : b'.length ≤ 20)
  (h : ∀ t s', Keeps s s' → Q (.str (rep1 (rep1 x a b) a' b') t) s') :
  wpAny (model (PySem.Challenge.rw_mj0255_01).prog w) A (call (.ref 51) [.str x tk, .str a ta, .str b tb, .str a' ta', .str b' tb']) Q E s := by
  obtain ⟨oc, od, params, body, scope, dV, kV, doc, pm, an, ct, osl, k1, k2, k3, k4, k5, k6, k7, k8, k9, k10, k11⟩ := r_body (w := w) s.heap (fun _ => rfl)
  refine wpAny_call (enterV KX T.nolimit k1 k2 (by omega) (k10 _ _ _ _ _) (fun t y hy => ?_) (by simp) (fun D L h₁ tkE F N => ?_) k3 k4 k5 k6)
  · rcases List.mem_cons.mp hy with rfl | hy
    · exact k7
    · rw [List.mem_singleton] at hy; subst hy; exact k8
  · rw [mR_bind] at F
    exact k11 (qs := [((a, ta), (b, tb)), ((a', ta'), (b', tb'))]) hh hroom hun KX T (by simp) hx (fun q hq => by
      rcases List.mem_cons.mp hq with rfl | hq
      · exact ⟨ha, hb⟩
      · rw [List.mem_singleton] at hq; subst hq; exact ⟨ha', hb'⟩) F N h
end
section
open PySem PySem.W PySem.Calls PySem.Spec PyProof.Rows
set_option maxRecDepth 100000
set_option maxHeartbeats 400000
def wordsStep (ws : List Str) (x : Int) : List Str :=
  (if x.fmod 16 < 2 ∨ ws = [] then ws ++ [Str.ofString ""] else ws).dropLast ++ [((if x.fmod 16 < 2 ∨ ws = [] then ws ++ [Str.ofString ""] else ws).getLast?.getD Str.empty) ++ signF x]
def wordsF (ns : List Int) : List Str := ns.foldl wordsStep []
theorem wordsF_take (ns : List Int) (i : Nat) (n : Int) (h : ns[i]? = some n) : wordsF (ns.take (i + 1)) = wordsStep (wordsF (ns.take i)) n := by
  unfold wordsF
  rw [List.take_add_one, h]
  simp
theorem strOk_iff (x : Str) : PyData.strOk x = true ↔ ∀ c ∈ x.cps.toList, c < 1114112 := by
  unfold PyData.strOk
  rw [Array.all_eq_true_iff_forall_mem]
  constructor
  · intro h c hc
    simpa using h c (Array.mem_toList_iff.mp hc)
  · intro h c hc
    simpa using h c (Array.mem_toList_iff.mpr hc)
theorem strOk_append {x y : Str} (hx : PyData.strOk x = true) (hy : PyData.strOk y = true) : PyData.strOk (x ++ y) = true := by
  rw [strOk_iff] at *
  intro c hc
  have : (x ++ y).cps.toList = x.cps.toList ++ y.cps.toList := by rw [Str.cps_append, Array.toList_append]
  rw [this] at hc
  exact (List.mem_append.mp hc).elim (hx c) (hy c)
theorem strOk_item {x : Str} (i : Int) (hx : PyData.strOk x = true) : PyData.strOk (Txt.item x i) = true := by
  rw [strOk_iff] at *
  intro c hc
  unfold Txt.item at hc
  simp only [List.mem_cons, List.not_mem_nil, or_false] at hc
  subst hc
  unfold Txt.charAt
  cases h : seqIndex? i x.length with
  | none => simp
  | some k =>
    show (x.cps[k]?.getD 0) < _
    cases h2 : x.cps[k]? with
    | none => simp
    | some v => exact hx v (Array.mem_toList_iff.mpr (Array.mem_of_getElem? h2))
theorem item_len (x : Str) (i : Int) : (Txt.item x i).length = 1 := rfl
theorem tab_get {p : Str → Bool} {l : List Str} (h : l.all p = true) (h0 : p Str.empty = true) (k : Nat) : p (l.getD k Str.empty) = true := by
  rw [List.getD_eq_getElem?_getD]
  cases hk : l[k]? with
  | none => exact h0
  | some y => exact List.all_eq_true.mp h y (List.mem_of_getElem? hk)
theorem fmod_nonneg (a : Int) {b : Int} (hb : 0 < b) : 0 ≤ a.fmod b ∧ a.fmod b < b := by
  rw [Int.fmod_eq_emod_of_nonneg _ (by omega)]
  exact ⟨Int.emod_nonneg _ (by omega), Int.emod_lt_of_pos _ hb⟩
theorem signF_len (x : Int) : (signF x).length ≤ 5 := by
  unfold signF
  split
  · rw [item_len]; omega
  · split
    · rw [item_len]; omega
    · split
      · show 1 ≤ 5; omega
      · exact of_decide_eq_true (tab_get (p := fun y => decide (y.length ≤ 5)) (by decide +kernel) (by decide +kernel) _)
theorem signF_ok (x : Int) : PyData.strOk (signF x) = true := by
  unfold signF
  split
  · exact strOk_item _ (by decide +kernel)
  · split
    · exact strOk_item _ (by decide +kernel)
    · split
      · rw [strOk_iff]
        intro c hc
        simp only [List.mem_cons, List.not_mem_nil, or_false] at hc
        subst hc
        have := fmod_nonneg (x.fdiv 16) (b := 1112064) (by omega)
        split <;> omega
      · exact tab_get (p := PyData.strOk) (by decide +kernel) (by decide +kernel) _
structure WOk (n : Nat) (ws : List Str) : Prop where
  len : ws.length ≤ n
  each : ∀ w ∈ ws, w.length ≤ 5 * n ∧ PyData.strOk w = true
  sum : (ws.map (·.length)).sum ≤ 5 * n
theorem WOk.step {n : Nat} {ws : List Str} (h : WOk n ws) (x : Int) : WOk (n + 1) (wordsStep ws x) := by
  unfold wordsStep
  have e0 : Str.ofString "" = ⟨#[]⟩ := by decide +kernel
  generalize hW : (if x.fmod 16 < 2 ∨ ws = [] then ws ++ [Str.ofString ""] else ws) = W
  have h1 : W.length ≤ n + 1 ∧ W ≠ [] ∧ (∀ w ∈ W, w.length ≤ 5 * n ∧ PyData.strOk w = true) ∧ (W.map (·.length)).sum ≤ 5 * n := by
    subst hW
    split
    · refine ⟨by have := h.len; simp; omega, by simp, fun w hw => ?_, ?_⟩
      · rcases List.mem_append.mp hw with hw | hw
        · exact h.each w hw
        · rw [List.mem_singleton] at hw
          subst hw
          rw [e0]
          exact ⟨Nat.zero_le _, by decide +kernel⟩
      · have := h.sum
        rw [List.map_append, List.sum_append, e0]
        simpa [Str.length] using this
    · rename_i hc
      exact ⟨by have := h.len; omega, fun e => hc (.inr e), h.each, h.sum⟩
  obtain ⟨l1, l2, l3, l4⟩ := h1
  have hg : W.getLast?.getD Str.empty = W.getLast l2 := by rw [List.getLast?_eq_some_getLast l2]; rfl
  rw [hg]
  have hs := signF_len x
  have hlast := l3 _ (List.getLast_mem l2)
  have hsplit : W = W.dropLast ++ [W.getLast l2] := (List.dropLast_concat_getLast l2).symm
  refine ⟨?_, ?_, ?_⟩
  · rw [List.length_append, List.length_dropLast, List.length_singleton]
    have : W.length ≠ 0 := fun e => l2 (List.length_eq_zero_iff.mp e)
    omega
  · intro w hw
    rcases List.mem_append.mp hw with hw | hw
    · have := l3 w ((List.dropLast_sublist W).subset hw)
      exact ⟨by omega, this.2⟩
    · rw [List.mem_singleton] at hw
      subst hw
      refine ⟨?_, strOk_append hlast.2 (signF_ok x)⟩
      rw [Str.length_append]; omega
  · rw [List.map_append, List.sum_append]
    have : (W.map (·.length)).sum = (W.dropLast.map (·.length)).sum + (W.getLast l2).length := by
      conv => lhs; rw [hsplit]
      rw [List.map_append, List.sum_append]; simp
    simp only [List.map_cons, List.map_nil, List.sum_cons, List.sum_nil, Nat.add_zero, Str.length_append]
    omega
theorem wordsF_wok (ns : List Int) : WOk ns.length (wordsF ns) := by
  unfold wordsF
  have : ∀ (ns : List Int) (k : Nat) (ws : List Str), WOk k ws → WOk (k + ns.length) (ns.foldl wordsStep ws) := by
    intro ns
    induction ns with
    | nil => intro k ws h; simpa using h
    | cons n r ih =>
      intro k ws h
      rw [List.foldl_cons, List.length_cons]
      have := ih (k + 1) _ (h.step n)
      have e : k + (r.length + 1) = k + 1 + r.length := by omega
      rw [e]; exact this
  have := this ns 0 [] ⟨Nat.le_refl _, (fun w hw => nomatch hw), Nat.le_refl _⟩
  simpa using this
end
section
open PySem PySem.W PySem.Calls PySem.Spec PyProof.Rows
set_option maxRecDepth 100000
set_option maxHeartbeats 0
section
variable {prog : Program} {w : World} {A : Around} {E : Value → Shared → Prop} {s : Shared} {env : Env} {h₀ : Heap} {x : Str} {body : List Stmt} {Q : Flow → Shared → Prop}
def WPost (h₀ : Heap) (L : Addr) (s : Shared) (mm : Str → Option Value) (x : Str) (D : Addr) (own : List (Addr × Obj)) (W : List Str) (f : Flow) (s₂ : Shared) : Prop :=
  f = .next ∧ ∃ h' tk m' us' c', s₂ = { s with heap := h', toks := tk } ∧ Fr h₀ L h' m' ∧ (∀ y, y ≠ x → m' y = mm y) ∧ News h₀ L h' ((D, listOf (List.toArray us') c') :: own) ∧ StrsAre us' W
def IfPost (h₀ : Heap) (L : Addr) (s : Shared) (mm : Str → Option Value) (D : Addr) (own : List (Addr × Obj)) (W : List Str) (f : Flow) (s₂ : Shared) : Prop :=
  f = .next ∧ ∃ h' tk us' c', s₂ = { s with heap := h', toks := tk } ∧ Fr h₀ L h' mm ∧ News h₀ L h' ((D, listOf (List.toArray us') c') :: own) ∧ StrsAre us' W
theorem if_mid {L D : Addr} {mm : Str → Option Value} {own : List (Addr × Obj)} {us : List Value} {c : Nat} {st : Stmt} {rest : List Stmt} (W' : List Str) (F : Fr h₀ L s.heap mm) (N : News h₀ L s.heap ((D, listOf (List.toArray us) c) :: own))
    (h1 : wpAny (model prog w) A (exec st env) (IfPost h₀ L s mm D own W') E s)
    (h2 : ∀ h' tk us' c', Fr h₀ L h' mm → News h₀ L h' ((D, listOf (List.toArray us') c') :: own) → StrsAre us' W' → wpAny (model prog w) A (execs rest env) Q E { s with heap := h', toks := tk }) :
    wpAny (model prog w) A (execs (st :: rest) env) Q E s := by
  refine wpAny_execs_cons (wpAny_mono h1 (fun f s' hp => ?_) fun _ _ e => e)
  obtain ⟨rfl, h', tk, us', c', rfl, F', N', hu⟩ := hp
  exact h2 h' tk us' c' F' N' hu
theorem ifPost {L D : Addr} {mm : Str → Option Value} {own : List (Addr × Obj)} {W : List Str} {us : List Value} {c : Nat} {h' : Heap} {tk : Nat} (F : Fr h₀ L h' mm) (N : News h₀ L h' ((D, listOf (List.toArray us) c) :: own)) (hu : StrsAre us W) :
    IfPost h₀ L s mm D own W .next { s with heap := h', toks := tk } := ⟨rfl, h', tk, us, c, rfl, F, N, hu⟩
theorem strsAre_snoc {vs : List Value} {us : List Str} {x : Str} {t : Tok} : StrsAre vs us → StrsAre (vs ++ [.str x t]) (us ++ [x])
  | .nil => .cons x t .nil
  | .cons y u r => .cons y u (strsAre_snoc r)
theorem strsAre_dropLast : ∀ {vs : List Value} {us : List Str}, StrsAre vs us → StrsAre vs.dropLast us.dropLast
  | _, _, .nil => .nil
  | _, _, .cons y u .nil => .nil
  | _, _, .cons y u (.cons y2 u2 r) => by
    show StrsAre (_ :: (_ :: _).dropLast) (_ :: (_ :: _).dropLast)
    exact .cons y u (strsAre_dropLast (.cons y2 u2 r))
theorem strsAre_last : ∀ {vs : List Value} {us : List Str}, StrsAre vs us → vs ≠ [] → ∃ t, vs[vs.length - 1]? = some (.str (us.getLast?.getD Str.empty) t)
  | _, _, .nil, h => absurd rfl h
  | _, _, .cons y u .nil, _ => ⟨u, rfl⟩
  | _, _, .cons y u (.cons (vs := vs) y2 u2 r), _ => by
    obtain ⟨t, ht⟩ := strsAre_last (.cons y2 u2 r) (by simp)
    refine ⟨t, ?_⟩
    simpa using ht
theorem setLast_arr (us : List Value) (v : Value) (h : us ≠ []) : us.toArray.setIfInBounds (us.length - 1) v = (us.dropLast ++ [v]).toArray := by
  apply Array.ext'
  rw [Array.toList_setIfInBounds]
  show us.set (us.length - 1) v = us.dropLast ++ [v]
  have e := List.dropLast_concat_getLast h
  generalize us.dropLast = d at e
  generalize us.getLast h = l at e
  subst e
  simp
theorem setLast {L D : Addr} {m : Str → Option Value} {own : List (Addr × Obj)} {us : List Value} {c : Nat} {v : Value} {t : Tok} {Q : Unit → Shared → Prop} (F : Fr h₀ L s.heap m) (N : News h₀ L s.heap ((D, listOf us.toArray c) :: own)) (hoff : ∀ p ∈ own, p.1 ≠ D) (hne : us ≠ [])
    (h : ∀ h' c', Fr h₀ L h' m → News h₀ L h' ((D, listOf (us.dropLast ++ [v]).toArray c') :: own) → Q () { s with heap := h' }) :
    wpAny (model prog w) A (setItem (.ref D) (.int (-1) t) v) Q E s := by
  have hl : s.heap.IsList D us.toArray := News.isList N (.head _)
  have ho := N.get (.head _)
  have hpos : 0 < us.length := List.length_pos_iff.mpr hne
  unfold setItem
  try with_reducible refine wpAny_holding ?_
  first | refine wpAny_bind (wpAny_pure ?_) | skip
  refine wpAny_bind (wpAny_sequenceKey hl.typeIs (by decide) ?_)
  refine wpAny_bind (wpAny_callSpecial?_slot (name := Str.ofString "__setitem__") hl.typeIs slot_list_setitem
    (wpAny_call_entry slot_list_setitem hl.typeIs entry_list_setitem ?_ (args_list_setitem _ _ _)))
  show wpAny _ _ (Builtin.List.listSubscript? (.int (-1) t) >>= _) _ _ s
  refine wpAny_bind (wpAny_listSubscript_int (fitsIndex_neg (by decide) (by decide)) ?_)
  show wpAny _ _ ((Builtin.List.listItems (.ref D) >>= fun xs => pure ((seqIndex? (Int.negSucc 0) xs.size).bind fun i => xs[i]?.map (i, ·))) >>= _) _ _ s
  refine wpAny_bind (wpAny_bind ?_)
  show wpAny _ _ (seqItems? (.ref D) >>= _) _ _ s
  refine wpAny_bind (wpAny_seqItems ho rfl (wpAny_pure (wpAny_pure ?_)))
  rw [seqIndex_neg (by decide) (by simp; omega)]
  have e1 : (Int.negSucc 0 + ((us.toArray.size : Nat) : Int)).toNat = us.length - 1 := by
    rw [List.size_toArray]; omega
  simp only [Option.bind_some, e1]
  have e2 : us.toArray[us.length - 1]? = some us[us.length - 1] := by simp [show us.length - 1 < us.length by omega]
  simp only [Option.getD_some, e2, Option.map_some]
  show wpAny _ _ (setSeqItemAt D (us.length - 1) v >>= _) _ _ s
  refine wpAny_bind (wpAny_setSeqItemAt ho rfl ?_)
  have hs : Heap.SameBut D s.heap (s.heap.update D (Obj.mapSeq (·.setIfInBounds (us.length - 1) v))) := Heap.SameBut.update ..
  have z := N (D, listOf us.toArray c) (.head _)
  obtain ⟨c', hc'⟩ : ∃ c', Obj.mapSeq (·.setIfInBounds (us.length - 1) v) (listOf us.toArray c) = listOf (us.dropLast ++ [v]).toArray c' := by
    rw [← setLast_arr us v hne]
    exact ⟨_, rfl⟩
  have ge : (s.heap.update D (Obj.mapSeq (·.setIfInBounds (us.length - 1) v))).get? D = some (listOf (us.dropLast ++ [v]).toArray c') := by
    rw [← hc']
    exact Heap.get?_update_self _ ho (by rw [hc']; rfl)
  have fin := h _ c' (F.change hs z.2.1 z.2.2) (news_set (pre := []) N (fun p hp => nomatch hp) hoff hs ge)
  first
    | exact wpAny_bind (wpAny_pure (wpAny_pure ⟨.none, rfl, wpAny_pure fin⟩))
    | exact wpAny_pure ⟨.none, rfl, wpAny_pure fin⟩
theorem words_loop {l D : Addr} {vs : List Value} {ns : List Int} {mm : Str → Option Value} {c0 : Nat}
    (hh : A.handled = none) (hl : h₀.IsList l vs.toArray) (hi : IntsAre vs ns) (F : Fr h₀ env.locals s.heap mm) (N : News h₀ env.locals s.heap [(D, listOf #[] c0)])
    (turn : ∀ i n t us c h tk own, ns[i]? = some n → OwnOff own [D] → StrsAre us (wordsF (ns.take i)) → Fr h₀ env.locals h (fun y => if y = x then some (.int n t) else mm y) → News h₀ env.locals h ((D, listOf (List.toArray us) c) :: own) →
      wpAny (model prog w) A (execs body env) (WPost h₀ env.locals s mm x D own (wordsF (ns.take (i + 1)))) E { s with heap := h, toks := tk })
    (done : ∀ u us c h tk, StrsAre us (wordsF ns) → Fr h₀ env.locals h (fun y => if y = x then u else mm y) → News h₀ env.locals h [(D, listOf (List.toArray us) c)] → Q .next { s with heap := h, toks := tk }) :
    wpAny (model prog w) A (pyIter (.ref l)) (fun it s₂ => LoopAtV prog w A h₀ env x body Q E it s₂) E s := by
  refine iter_invN (fun i m₁ news₁ => ∃ u us c, m₁ = (fun y => if y = x then u else mm y) ∧ news₁ = [(D, listOf (List.toArray us) c)] ∧ StrsAre us (wordsF (ns.take i))) hh hl hi F N ?_ ?_ ?_
  · refine ⟨mm x, [], c0, ?_, rfl, .nil⟩
    funext y
    split
    · rename_i e; rw [e]
    · rfl
  · rintro i n t m₁ news₁ h tk own hn hadr hoff ⟨u, us, c, rfl, rfl, hus⟩ F₁ N₁
    have F₂ : Fr h₀ env.locals h (fun y => if y = x then some (.int n t) else mm y) := by
      have e : (fun y => if y = x then some (Value.int n t) else (fun y => if y = x then u else mm y) y) = fun y => if y = x then some (.int n t) else mm y := by
        funext y
        by_cases h : y = x <;> simp [h]
      rw [e] at F₁; exact F₁
    refine wpAny_mono (turn i n t us c h tk own hn hoff hus F₂ N₁) (fun f s₂ hp => ?_) fun _ _ e => e
    obtain ⟨rfl, h', tk', m', us', c', rfl, F', hm', N', hus'⟩ := hp
    refine ⟨h', tk', m', _, [(D, listOf (List.toArray us') c')], rfl, F', N', fun p hp => ?_, fun p hp => .tail _ hp, rfl, m' x, us', c', ?_, rfl, hus'⟩
    · rw [List.mem_singleton] at hp; rw [hp]; exact .head _
    · funext y
      by_cases h : y = x
      · simp [h]
      · simp [h, hm' y h]
  · rintro m₁ news₁ h tk ⟨u, us, c, rfl, rfl, hus⟩ F₁ N₁
    rw [List.take_length] at hus
    exact done u us c h tk hus F₁ N₁
end
end
section
open PySem PySem.W PySem.Calls PySem.Spec PyProof.Rows
set_option maxRecDepth 100000
set_option maxHeartbeats 0
theorem c_words {w : World} {p : Program} {loose : List Str} {mg mb : Str → Option Value} {A : Around} {s : Shared} {Q E : Value → Shared → Prop} {l : Addr} {vs : List Value} {ns : List Int}
  (hh : A.handled = none) (hroom : A.depth + 20 < recursionLimit) (hun : A.units + 200 < cLine) (KX : (Mine.kFrag w.params).In s.heap) (T : TopRead p loose mg mb s.heap)
  (hl : s.heap.IsList l vs.toArray) (hi : IntsAre vs ns) (hlen : ns.length ≤ 10) (hns : ∀ n ∈ ns, 0 ≤ n ∧ n < 142344192)
  (h : ∀ D us h' tk, (∀ b o, s.heap.get? b = some o → h'.get? b = some o) → s.heap.get? D = none → h'.IsList D (List.toArray us) → StrsAre us (wordsF ns) → Q (.ref D) { s with heap := h', toks := tk }) :
  wpAny (model (PySem.Challenge.rw_mj0255_01).prog w) A (call (.ref 780) [.ref l]) Q E s := by
  revert KX
  k_fill
  intro KX
  refine wpAny_call ?_
  walk_at "m enter0"
  intro h₁ F N
  (try dsimp only)
  walk_at "m go"
  rename Fr _ _ _ _ => F1
  rename News _ _ _ _ => N1
  (with_unfolding_all refine' For_invVF F1 ?k1 ?k2 ?_; (case k1 => exact rfl); (case k2 => exact rfl); k_whole)
  walk1
  refine words_loop hh hl hi F1 N1 ?_ ?_
  · intro i n t us c h2 tk2 own hn hoff hus F2 N2
    clear F1 N1
    have hlt : i < ns.length := (List.getElem?_eq_some_iff.mp hn).1
    have hwk := wordsF_wok (ns.take i)
    rw [List.length_take] at hwk
    have hul : us.length ≤ 10 := by rw [hus.length]; have := hwk.len; omega
    rw [wordsF_take ns i n hn]
    generalize hW : wordsF (ns.take i) = W at hus hwk ⊢
    refine if_mid (if n.fmod 16 < 2 ∨ W = [] then W ++ [Str.ofString ""] else W) F2 N2 ?_ ?_
    · walk_at "m go"
      · rename (n.fmod 16 < 2) => hk
        rw [if_pos (.inl hk)]
        rename News _ _ _ _ => N3
        rw [List.push_toArray] at N3
        exact ifPost (by assumption) N3 (strsAre_snoc hus)
      · rename (¬ (n.fmod 16 < 2)) => hk
        rename Fr _ _ _ _ => F3
        rename News _ _ _ _ => N3
        refine eq_strs (ys := []) (News.isList N3 (.tail _ (.head _))) (News.isList N3 (.head _)) hus .nil (fun x hx => (hwk.each x hx).2) (fun x hx => nomatch hx) ?_ ?_
        · walk_at "m depth"
        by_cases hW0 : W = []
        · rw [decide_eq_true hW0]
          walk_at "m go"
          rw [if_pos (.inr hW0)]
          rename News _ _ _ _ => N4
          rw [List.push_toArray] at N4
          exact ifPost (by assumption) (fun p hp => N4 p (.tail _ hp)) (strsAre_snoc hus)
        · rw [decide_eq_false hW0]
          walk_at "m go"
          rw [if_neg (fun e => e.elim hk hW0)]
          rename News _ _ _ _ => N4
          exact ifPost (by assumption) (fun p hp => N4 p (.tail _ hp)) hus
    · intro h3 tk3 us3 c3 F3 N3 hus3
      clear F2 N2
      unfold wordsStep
      generalize hV : (if n.fmod 16 < 2 ∨ W = [] then W ++ [Str.ofString ""] else W) = V at hus3 ⊢
      have hne : us3 ≠ [] := by
        intro e
        subst e
        cases hus3
        split at hV
        · simp at hV
        · rename_i hc; exact hc (.inr hV)
      obtain ⟨tl, hlast⟩ := strsAre_last hus3 hne
      have hposl : 0 < us3.length := List.length_pos_iff.mpr hne
      walk_at "m gos"
      refine tail_any (Heap.IsList.typeIs (News.isList N3 (.head _))) slot_list_getitem.lookup (wpAny_getItem_list_neg (x := .str (V.getLast?.getD Str.empty) tl) (News.isList N3 (.head _)) (by decide) (by simp only [List.size_toArray]; omega) (by decide) ?_ ?_) (by with_unfolding_all rfl)
      · have e : (-1 + ((us3.toArray.size : Nat) : Int)).toNat = us3.length - 1 := by rw [List.size_toArray]; omega
        rw [e]
        simpa using hlast
      walk_at "m gos"
      have hn2 := hns n (List.mem_of_getElem? hn)
      refine c_sign (p := p) (loose := loose) (mg := mg) (mb := mb) ?_ ?_ (KX.keeps F3.keep) (T.keeps F3.keep) hn2.1 hn2.2 ?_
      · walk_at "m depth"
      · walk_at "m depth"
      intro tS s4 hs4
      obtain ⟨h4, tk4, rfl, hk4⟩ := hs4
      have F4 := F3.keeps hk4
      have N4 := News.grown N3 hk4
      clear F3 N3
      dsimp only
      have hV5 : (V.getLast?.getD Str.empty).length ≤ 50 := by
        have hwv : ∀ x ∈ V, x.length ≤ 50 := by
          intro x hx
          rw [← hV] at hx
          split at hx
          · rcases List.mem_append.mp hx with hx | hx
            · have := (hwk.each x hx).1; omega
            · rw [List.mem_singleton] at hx; rw [hx, show (Str.ofString "").length = 0 from by decide +kernel]; omega
          · have := (hwk.each x hx).1; omega
        cases hg : V.getLast? with
        | none => exact Nat.zero_le _
        | some y => exact hwv y (List.mem_of_getLast? hg)
      have hS5 := signF_len n
      walk_at "m gos"
      refine setLast F4 N4 (fun p hp => hoff p hp _ (.head _)) hne ?_
      intro h5 c5 F5 N5
      clear F4 N4
      walk_at "m gos"
      refine ⟨rfl, h5, _, _, us3.dropLast ++ [_], c5, rfl, F5, fun y hy => if_neg hy, N5, strsAre_snoc (strsAre_dropLast hus3)⟩
  · intro u us c h2 tk2 hus F2 N2
    clear F1 N1
    walk_at "m go"
    dsimp only
    refine h _ us _ _ (fun b o e => F2.keep b o e) (News.fresh N2 (.head _)) (News.isList N2 (.head _)) hus
end
section
open PySem PySem.W PySem.Calls PySem.Spec PyProof.Rows
set_option maxRecDepth 100000
set_option maxHeartbeats 0
structure Gnd (K : Frag) (p : Program) (loose : List Str) (mg mb : Str → Option Value) (h : Heap) (hs : List (Addr × Obj)) : Prop where
  kin : K.In (hideAll h (hs.map (·.1)))
  top : TopRead p loose mg mb (hideAll h (hs.map (·.1)))
  at_ : ∀ q ∈ hs, h.get? q.1 = some q.2
def But (ds : List Addr) (h h' : Heap) : Prop := ∀ b o, h.get? b = some o → b ∉ ds → h'.get? b = some o
theorem But.refl (ds : List Addr) (h : Heap) : But ds h h := fun _ _ e _ => e
theorem But.trans {ds : List Addr} {a b c : Heap} (x : But ds a b) (y : But ds b c) : But ds a c := fun q o e n => y q o (x q o e n) n
theorem stays_hide {g h : Heap} {L : Addr} {m : Str → Option Value} {news hs : List (Addr × Obj)} (F : Fr g L h m) (N : News g L h news) (hsub : ∀ q ∈ hs, q ∈ news) : g.StaysIn (hideAll h (hs.map (·.1))) := fun b o e => by
  refine hideAll_get _ (F.keep b o e) fun q => ?_
  obtain ⟨p, hp, rfl⟩ := List.mem_map.mp q
  rw [(N p (hsub p hp)).2.2] at e; cases e
theorem gndOf {K : Frag} {p : Program} {loose : List Str} {mg mb : Str → Option Value} {g h : Heap} {L : Addr} {m : Str → Option Value} {news : List (Addr × Obj)} (hs : List (Addr × Obj)) (F : Fr g L h m) (N : News g L h news) (X : K.In g) (T : TopRead p loose mg mb g) (hsub : ∀ q ∈ hs, q ∈ news) : Gnd K p loose mg mb h hs :=
  ⟨X.keeps (stays_hide F N hsub), T.keeps (stays_hide F N hsub), fun q hq => (N q (hsub q hq)).1⟩
theorem frBut {g h h' : Heap} {L : Addr} {m : Str → Option Value} {news : List (Addr × Obj)} {ds : List Addr} (F : Fr g L h m) (N : News g L h news) (B : But ds h h') (hsub : ∀ d ∈ ds, d ∈ news.map (·.1)) : Fr g L h' m := by
  have n0 : ∀ b o, g.get? b = some o → b ∉ ds := fun b o e q => by
    obtain ⟨p, hp, rfl⟩ := List.mem_map.mp (hsub b q)
    rw [(N p hp).2.2] at e; cases e
  obtain ⟨oL, es, ep, hL, r⟩ := F.ns
  refine ⟨⟨oL, es, ep, B _ _ hL fun q => ?_, r⟩, fun b o e => B b o (F.keep b o e) (n0 b o e), F.above⟩
  obtain ⟨p, hp, e⟩ := List.mem_map.mp (hsub L q)
  exact (N p hp).2.1 e
theorem newsBut {g h h' : Heap} {L : Addr} {news news' : List (Addr × Obj)} {ds : List Addr} (N : News g L h news) (B : But ds h h') (hn : ∀ q ∈ news', h'.get? q.1 = some q.2 ∧ q.1 ∈ news.map (·.1)) : News g L h' news' := fun q hq => by
  obtain ⟨e, hm⟩ := hn q hq
  obtain ⟨p, hp, e'⟩ := List.mem_map.mp hm
  exact ⟨e, e' ▸ (N p hp).2.1, e' ▸ (N p hp).2.2⟩
theorem Gnd.kin' {K : Frag} {p : Program} {loose : List Str} {mg mb : Str → Option Value} {h : Heap} {hs : List (Addr × Obj)} (G : Gnd K p loose mg mb h hs) : K.In h := G.kin.keeps fun _ _ e => of_hideAll _ e
theorem keepsAll {K : Frag} {p : Program} {loose : List Str} {mg mb : Str → Option Value} {g h h' : Heap} {L : Addr} {m : Str → Option Value} {hs : List (Addr × Obj)} (G : Gnd K p loose mg mb h hs) (hk : ∀ b o, h.get? b = some o → b ∉ hs.map (·.1) → g.get? b = some o) (F : Fr g L h' m) (N : News g L h' hs) : ∀ b o, h.get? b = some o → h'.get? b = some o := fun b o e => by
  by_cases q : b ∈ hs.map (·.1)
  · obtain ⟨r, hr, rfl⟩ := List.mem_map.mp q
    rw [G.at_ r hr] at e
    cases e
    exact (N r hr).1
  · exact F.keep b o (hk b o e q)
section
variable {prog : Program} {w : World} {A : Around} {s : Shared} {K : Frag} {R : Result → Shared → Prop} {name qual : Str} {params : Arguments} {body : List Stmt} {scope : Scope} {dV kV doc pm cdv ct oc : Value} {an od : Option Addr} {osl : Array (Option Value)} {f : Addr} {args : Args} {binds : List (Str × Value)} {p : Program} {loose : List Str} {mg mb : Str → Option Value} {hs : List (Addr × Obj)}
theorem enterH (G : Gnd K p loose mg mb s.heap hs)
    (ho : K.lookup f = some ⟨oc, od, .func (fnOf name qual params body scope dV kV doc pm an cdv ct), osl⟩) (hcd : codeIn K cdv qual = true) (hroom : A.depth < recursionLimit)
    (hbind : BindsTo s (fnOf name qual params body scope dV kV doc pm an cdv ct) args binds) (hloc : ∀ y ∈ binds, scope.names.lookup y.1 = some .local)
    (h : ∀ g L h₁, Fr g L h₁ (fun y => binds.reverse.lookup y) → News g L h₁ hs → K.In g → TopRead p loose mg mb g → (∀ b o, s.heap.get? b = some o → b ∉ hs.map (·.1) → g.get? b = some o) → (∀ b o, s.heap.get? b = some o → h₁.get? b = some o ∧ @LT.lt Nat _ b L) →
      wpAny (model prog w) (A.deeper (envOf qual scope L f cdv)) (execs body (envOf qual scope L f cdv))
        (fun fl s' => R (.ok (.ret (match fl with | .ret v => v | _ => .none))) s')
        (fun e s' => wpAny (model prog w) (A.deeper (envOf qual scope L f cdv)) (leaving (envOf qual scope L f cdv) e) (fun _ s'' => R (.error e) s'') (fun e' s'' => R (.error e') s'') s')
        { s with heap := h₁, toks := s.toks + binds.length })
    (hco : scope.isCoroutine = false) (hgen : scope.isGenerator = false) (hk : scope.kind = .function)
    (hcell : ∀ x ∈ scope.names, x.2 ≠ .cell) : codeAny (model prog w) A (.call (.ref f) args) R s := by
  have st : (hideAll s.heap (hs.map (·.1))).StaysIn s.heap := fun b o e => of_hideAll _ e
  refine codeAny_call_def (fd := fnOf name qual params body scope dV kV doc pm an cdv ct) (body := body) (binds := binds) hroom ((G.kin.keeps st) _ _ ho) rfl (G.top.nolimit.keeps st) (codeRec_of (G.kin.keeps st) hcd) rfl hbind hcell hloc
    (fun h₁ hns hk₁ => ?_) hco hgen hk
  refine h (hideAll s.heap (hs.map (·.1))) s.heap.objs.size h₁ ⟨hns, fun b o e => hk₁ b o (of_hideAll _ e), Nat.le_of_eq (hideAll_size _ _)⟩ (fun q hq => ⟨hk₁ _ _ (G.at_ q hq), Nat.ne_of_lt (Heap.lt_size (G.at_ q hq)), hideAll_none _ (List.mem_map_of_mem hq)⟩) G.kin G.top (fun b o e n => hideAll_get _ e n) fun b o e => ⟨hk₁ b o e, Heap.lt_size e⟩
end
end
local macro_rules | `(tactic| walk_at "m enterH") => `(tactic| (k_dflt (refine' enterH (by assumption) ?k6 ?k7 ?k8 ?k9 ?kB ?_ ?c2 ?c3 ?c4 ?c5; (case k6 => k_is); (case k7 => k_is); (case k8 => omega); (case k9 => first | exact BindsTo.of_eq rfl | exact binds_K (Gnd.kin' (by assumption)) rfl (by k_is) rfl rfl rfl); (case c5 => decide); (case kB => exact locs rfl); (case c2 => exact rfl); (case c3 => exact rfl); (case c4 => exact rfl); k_whole)))
section
open PySem PySem.W PySem.Calls PySem.Spec PyProof.Rows
set_option maxRecDepth 100000
set_option maxHeartbeats 0

structure SioT where
  (k1 k2 k3 tb tp tn : Tok)
abbrev sioE (w : World) (a : SioT) (x : Str) (i : Int) : List DictEntry :=
  [⟨PyData.keyHash w.params (Str.ofString "_StringIO__newline"), .str (Str.ofString "_StringIO__newline") a.k1, .str (Str.ofString "\n") a.tn⟩,
   ⟨PyData.keyHash w.params (Str.ofString "_StringIO__buf"), .str (Str.ofString "_StringIO__buf") a.k2, .str x a.tb⟩,
   ⟨PyData.keyHash w.params (Str.ofString "_StringIO__pos"), .str (Str.ofString "_StringIO__pos") a.k3, .int i a.tp⟩]
abbrev sioH (w : World) (sx dsx : Addr) (a : SioT) (x : Str) (i : Int) : List (Addr × Obj) := [(sx, instObj 604 dsx), (dsx, dictOf (sioE w a x i) 3)]
theorem c_strans {w : World} {p : Program} {loose : List Str} {mg mb : Str → Option Value} {A : Around} {s : Shared} {Q E : Value → Shared → Prop} {sx dsx : Addr} {a : SioT} {x y : Str} {t : Tok}
  (hh : A.handled = none) (hroom : A.depth + 10 < recursionLimit) (hun : A.units + 100 < cLine) (G : Gnd (Mine.kFrag w.params) p loose mg mb s.heap (sioH w sx dsx a y 0))
  (hne : @LT.lt Nat _ dsx sx) (hx : x.length ≤ 5000) (h : ∀ h' tk, (∀ b o, s.heap.get? b = some o → h'.get? b = some o) → Q (.str x t) { s with heap := h', toks := tk }) :
  wpAny (model (PySem.Challenge.rw_mj0255_01).prog w) A (call (.ref 381) [.ref sx, .str x t]) Q E s := by
  revert G
  k_fill
  intro G
  refine wpAny_call ?_
  walk_at "m enterH"
  intro g L h₁ F N KX T hk hlt
  (try dsimp only)
  walk_at "m go"
  dsimp only
  exact h _ _ (keepsAll G hk (by assumption) (by assumption))
theorem c_sinit {w : World} {p : Program} {loose : List Str} {mg mb : Str → Option Value} {A : Around} {s : Shared} {R : Result → Shared → Prop} {sx dsx : Addr} {x : Str} {t : Tok}
  (hh : A.handled = none) (hroom : A.depth + 20 < recursionLimit) (hun : A.units + 200 < cLine) (G : Gnd (Mine.kFrag w.params) p loose mg mb s.heap [(sx, instObj 604 dsx), (dsx, dictOf [] 0)])
  (hne : @LT.lt Nat _ dsx sx) (hx : x.length ≤ 5000) 
  (h : ∀ h' tk a, But [sx, dsx] s.heap h' → h'.get? sx = some (instObj 604 dsx) → h'.get? dsx = some (dictOf (sioE w a x 0) 3) → R (.ok (.ret .none)) { s with heap := h', toks := tk }) :
  codeAny (model (PySem.Challenge.rw_mj0255_01).prog w) A (.call (.ref 374) ⟨[.ref sx, .str x t], []⟩) R s := by
  revert G
  k_fill
  intro G
  walk_at "m enterH"
  intro g L h₁ F N KX T hk hlt
  (try dsimp only)
  walk_at "m go"
  rename Fr _ _ _ _ => F1
  rename News _ _ _ _ => N1
  refine c_strans (p := p) (loose := loose) (mg := mg) (mb := mb) (a := ⟨_, _, _, _, _, _⟩) (y := Str.ofString "") hh ?_ ?_ (gndOf _ F1 N1 KX T fun q hq => hq) hne hx ?_
  · walk_at "m depth"
  · walk_at "m depth"
  intro h2 tk2 hk2
  have F2 := F1.keeps hk2
  have N2 := News.grown N1 hk2
  clear F1 N1
  (try dsimp only)
  walk_at "m go"
  (try dsimp only)
  rename Fr _ _ _ _ => F3
  rename News _ _ _ _ => N3
  refine h _ _ ⟨_, _, _, _, _, _⟩ (fun b o e n => F3.keep b o (hk b o e n)) (N3.get (.head _)) (N3.get (.tail _ (.head _)))

theorem c_index {w : World} {p : Program} {loose : List Str} {mg mb : Str → Option Value} {A : Around} {s : Shared} {Q E : Value → Shared → Prop} {y : Str} {t t' : Tok}
  (hh : A.handled = none) (hroom : A.depth + 10 < recursionLimit) (hun : A.units + 100 < cLine) (KX : (Mine.kFrag w.params).In s.heap) (T : TopRead p loose mg mb s.heap)
  (h : ∀ t s', Keeps s s' → Q (.int 1 t) s') :
  wpAny (model (PySem.Challenge.rw_mj0255_01).prog w) A (call (.ref 70) [.int 1 t, .str y t']) Q E s := by
  revert KX
  k_fill
  intro KX
  refine wpAny_call ?_
  walk_at "m enter0"
  intro h₁ F N
  (try dsimp only)
  walk_at "m go"
  all_goals (try dsimp only)
  all_goals exact h _ _ (keepsOf (by assumption) rfl)
theorem c_scheck {w : World} {p : Program} {loose : List Str} {mg mb : Str → Option Value} {A : Around} {s : Shared} {Q E : Value → Shared → Prop} {sx dsx : Addr} {a : SioT} {x : Str} {i : Nat}
  (hh : A.handled = none) (hroom : A.depth + 10 < recursionLimit) (hun : A.units + 100 < cLine) (G : Gnd (Mine.kFrag w.params) p loose mg mb s.heap (sioH w sx dsx a x i))
  (hne : @LT.lt Nat _ dsx sx) (h : ∀ s', Keeps s s' → Q .none s') :
  wpAny (model (PySem.Challenge.rw_mj0255_01).prog w) A (call (.ref 388) [.ref sx]) Q E s := by
  revert G
  k_fill
  intro G
  refine wpAny_call ?_
  walk_at "m enterH"
  intro g L h₁ F N KX T hk hlt
  (try dsimp only)
  walk_at "m go"
  (try dsimp only)
  exact h _ ⟨_, _, rfl, keepsAll G hk (by assumption) (by assumption)⟩
end
section
open PySem PySem.W PySem.Calls PySem.Spec PyProof.Rows
set_option maxRecDepth 100000
set_option maxHeartbeats 0
theorem sioFin {w : World} {g h' : Heap} {L sx dsx : Addr} {a : SioT} {x : Str} {j : Int} {tp : Nat} {n : Nat} (N : News g L h' [(sx, instObj 604 dsx), (dsx, dictOf [⟨PyData.keyHash w.params (Str.ofString "_StringIO__newline"), .str (Str.ofString "_StringIO__newline") a.k1, .str (Str.ofString "\n") a.tn⟩,
   ⟨PyData.keyHash w.params (Str.ofString "_StringIO__buf"), .str (Str.ofString "_StringIO__buf") a.k2, .str x a.tb⟩,
   ⟨PyData.keyHash w.params (Str.ofString "_StringIO__pos"), .str (Str.ofString "_StringIO__pos") a.k3, .int j tp⟩] n)]) (hn : n = 3) : ∃ a', h'.get? dsx = some (dictOf (sioE w a' x j) 3) := by
  subst hn
  exact ⟨⟨a.k1, a.k2, a.k3, a.tb, tp, a.tn⟩, N.get (.tail _ (.head _))⟩
theorem c_sread {w : World} {p : Program} {loose : List Str} {mg mb : Str → Option Value} {A : Around} {s : Shared} {Q E : Value → Shared → Prop} {sx dsx : Addr} {a : SioT} {x : Str} {i : Nat} {t : Tok}
  (hh : A.handled = none) (hroom : A.depth + 20 < recursionLimit) (hun : A.units + 200 < cLine) (G : Gnd (Mine.kFrag w.params) p loose mg mb s.heap (sioH w sx dsx a x i))
  (hne : @LT.lt Nat _ dsx sx) (hx : x.length ≤ 5000) (hi : i ≤ x.length)
  (h0 : i = x.length → ∀ t s', Keeps s s' → Q (.str (Str.ofString "") t) s')
  (h1 : ∀ c, x.cps.toList[i]? = some c → ∀ h' tk t a' (j : Int), j = (i + 1 : Nat) → But [sx, dsx] s.heap h' → h'.get? sx = some (instObj 604 dsx) → h'.get? dsx = some (dictOf (sioE w a' x j) 3) → Q (.str ⟨#[c]⟩ t) { s with heap := h', toks := tk }) :
  wpAny (model (PySem.Challenge.rw_mj0255_01).prog w) A (call (.ref 550) [.ref sx, .int 1 t]) Q E s := by
  revert G
  k_fill
  intro G
  refine wpAny_call ?_
  walk_at "m enterH"
  intro g L h₁ F N KX T hk hlt
  (try dsimp only)
  walk_at "m go"
  rename Fr _ _ _ _ => F1
  rename News _ _ _ _ => N1
  refine c_index (p := p) (loose := loose) (mg := mg) (mb := mb) hh ?_ ?_ (KX.keeps F1.keep) (T.keeps F1.keep) ?_
  · walk_at "m depth"
  · walk_at "m depth"
  intro t2 s2 hk2
  obtain ⟨h2, tk2, rfl, hk2⟩ := hk2
  have F2 := F1.keeps hk2
  have N2 := News.grown N1 hk2
  clear F1 N1
  (try dsimp only)
  walk_at "m go"
  rename Fr _ _ _ _ => F3
  rename News _ _ _ _ => N3
  refine c_scheck (p := p) (loose := loose) (mg := mg) (mb := mb) (a := a) (x := x) (i := i) hh ?_ ?_ (gndOf _ F3 N3 KX T fun q hq => hq) hne ?_
  · walk_at "m depth"
  · walk_at "m depth"
  intro s4 hk4
  obtain ⟨h4, tk4, rfl, hk4⟩ := hk4
  have F4 := F3.keeps hk4
  have N4 := News.grown N3 hk4
  clear F3 N3
  (try dsimp only)
  walk_at "m go"
  · dsimp only
    exact h0 (by omega) _ _ ⟨_, _, rfl, keepsAll G hk (by assumption) (by assumption)⟩
  · dsimp only
    rename Fr _ _ _ _ => F5
    rename News _ _ _ _ => N5
    have hl : x.cps.toList.length = x.length := rfl
    have hi' : i < x.cps.toList.length := by omega
    have e : Txt.slice x (some (i : Int)) (some ((i : Int) + 1)) = ⟨#[x.cps.toList[i]]⟩ := by
      have := sliceAt x i (i + 1)
      rw [Int.natCast_succ] at this
      rw [this, show i + 1 - i = 1 from by omega, List.drop_eq_getElem_cons hi']
      rfl
    rw [e]
    obtain ⟨a', q⟩ := sioFin N5 rfl
    exact h1 _ (List.getElem?_eq_getElem hi') _ _ _ a' _ (by omega) (fun b o e n => F5.keep b o (hk b o e n)) (N5.get (.head _)) q
  · dsimp only
    rename Fr _ _ _ _ => F5
    rename News _ _ _ _ => N5
    have hl : x.cps.toList.length = x.length := rfl
    have hi' : i < x.cps.toList.length := by omega
    have hq : (x.length : Int) = ((i + 1 : Nat) : Int) := by omega
    have e : Txt.slice x (some (i : Int)) (some (x.length : Int)) = ⟨#[x.cps.toList[i]]⟩ := by
      have := sliceAt x i (i + 1)
      rw [hq, this, show i + 1 - i = 1 from by omega, List.drop_eq_getElem_cons hi']
      rfl
    rw [e]
    obtain ⟨a', q⟩ := sioFin N5 rfl
    exact h1 _ (List.getElem?_eq_getElem hi') _ _ _ a' _ (by omega) (fun b o e n => F5.keep b o (hk b o e n)) (N5.get (.head _)) q
end
section
open PySem PySem.W PySem.StrLaws Builtin.Str
set_option maxRecDepth 100000
set_option maxHeartbeats 400000
inductive Rep (p b : List Nat) : List Nat → List Nat → Prop
  | nil : Rep p b [] []
  | hit (r r' : List Nat) : Rep p b r r' → Rep p b (p ++ r) (b ++ r')
  | go (c : Nat) (r r' : List Nat) : ¬ p <+: (c :: r) → Rep p b r r' → Rep p b (c :: r) (c :: r')
theorem Rep.det {p b : List Nat} (hp : p ≠ []) {l r : List Nat} (h : Rep p b l r) : ∀ r', Rep p b l r' → r = r' := by
  induction h with
  | nil =>
    intro r' h'
    generalize e : ([] : List Nat) = l at h'
    cases h' with
    | nil => rfl
    | hit a a' _ => exact absurd (List.append_eq_nil_iff.mp e.symm).1 hp
    | go _ _ _ _ _ => cases e
  | hit a a' _ ih =>
    intro r' h'
    generalize e : p ++ a = l at h'
    cases h' with
    | nil => exact absurd (List.append_eq_nil_iff.mp e).1 hp
    | hit d d' h => rw [List.append_cancel_left e] at ih; rw [ih _ h]
    | go c d d' n _ => exact absurd ⟨a, e⟩ n
  | go c a a' n _ ih =>
    intro r' h'
    generalize e : c :: a = l at h'
    cases h' with
    | nil => cases e
    | hit d d' h => exact absurd ⟨d, e.symm⟩ n
    | go c' d d' _ h => cases e; rw [ih _ h]
theorem rep_skip {p b L r : List Nat} {a : Nat} : ∀ n, (∀ k, a ≤ k → k < a + n → ¬ p <+: L.drop k) → a + n ≤ L.length → Rep p b (L.drop (a + n)) r → Rep p b (L.drop a) ((L.drop a).take n ++ r)
  | 0, _, _, h => by simpa using h
  | n + 1, hn, hl, h => by
    have ha : a < L.length := by omega
    have hd := List.drop_eq_getElem_cons ha
    have ih := rep_skip (p := p) (b := b) (L := L) (r := r) (a := a + 1) n (fun k h1 h2 => hn k (by omega) (by omega)) (by omega) (by rw [show a + 1 + n = a + (n + 1) from by omega]; exact h)
    have n0 := hn a (Nat.le_refl _) (by omega)
    rw [hd] at n0 ⊢
    exact .go _ _ _ n0 ih
theorem at_pre {x y : Str} (hw : 1 ≤ y.length) (k : Nat) : At x y x.length k ↔ y.cps.toList <+: x.cps.toList.drop k := by
  unfold At
  rw [subAt_eq, beq_iff_eq]
  have hn : x.cps.toList.length = x.length := by simp [Str.length]
  have hy : y.cps.toList.length = y.length := by simp [Str.length]
  constructor
  · rintro ⟨_, h⟩
    rw [← h]
    exact List.take_prefix _ _
  · intro h
    have hl := h.length_le
    rw [List.length_drop] at hl
    refine ⟨by omega, ?_⟩
    rw [← hy]; exact (List.prefix_iff_eq_take.mp h).symm
theorem join_cons_list (sep x y : Str) (r : List Str) : (Str.join sep (x :: y :: r)).cps.toList = x.cps.toList ++ (sep.cps.toList ++ (Str.join sep (y :: r)).cps.toList) := by
  show ((x ++ sep) ++ Str.join sep (y :: r)).cps.toList = _
  simp [Str.cps_append]
theorem rep_none {p b L : List Nat} (a : Nat) (hp : p ≠ []) (h : ∀ k, a ≤ k → ¬ p <+: L.drop k) : Rep p b (L.drop a) (L.drop a) := by
  by_cases ha : a ≤ L.length
  · have := rep_skip (p := p) (b := b) (L := L) (a := a) (r := []) (L.length - a) (fun k h1 _ => h k h1) (by omega) (by
      rw [List.drop_eq_nil_of_le (by omega)]; exact .nil)
    rwa [List.append_nil, List.take_of_length_le (by rw [List.length_drop]; omega)] at this
  · rw [List.drop_eq_nil_of_le (by omega)]; exact .nil
theorem chain_rep {x y z : Str} (hw : 1 ≤ y.length) : ∀ (cuts : List Nat) (a f : Nat), ChainG x y x.length a cuts f → (∀ k, f ≤ k → ¬ At x y x.length k) →
    Rep y.cps.toList z.cps.toList (x.cps.toList.drop a) (Str.join z (partsFrom x y.length a cuts)).cps.toList
  | [], a, f, h, hn => by
    have e : f = a := h
    subst e
    have hy : y.cps.toList ≠ [] := fun e => by have : y.cps.toList.length = 0 := by rw [e]; rfl
                                               have hl : y.cps.toList.length = y.length := by simp [Str.length]
                                               omega
    show Rep _ _ _ (strSub x f x.length).cps.toList
    rw [strSub_toList, List.take_of_length_le (by simp [Str.length])]
    exact rep_none f hy fun k hk => fun hp => hn k hk ((at_pre hw k).mpr hp)
  | c :: r, a, f, h, hn => by
    obtain ⟨p, q, e⟩ := partsFrom_ne x y.length (c + y.length) r
    have ih := chain_rep (z := z) hw r (c + y.length) f h.2.2.2 hn
    show Rep _ _ _ (Str.join z (strSub x a c :: partsFrom x y.length (c + y.length) r)).cps.toList
    rw [e] at ih ⊢
    rw [join_cons_list, strSub_toList]
    have hc := (at_pre hw c).mp h.2.1
    have hcl := h.2.1.1
    have hl : x.cps.toList.length = x.length := by simp [Str.length]
    have hac := h.1
    have := rep_skip (p := y.cps.toList) (b := z.cps.toList) (L := x.cps.toList) (a := a) (r := z.cps.toList ++ (Str.join z (p :: q)).cps.toList) (c - a) (fun k h1 h2 => fun hp => h.2.2.1 k h1 (by omega) ((at_pre hw k).mpr hp)) (by omega) (by
      rw [show a + (c - a) = c from by omega]
      obtain ⟨t, ht⟩ := hc
      have hyl : y.cps.toList.length = y.length := by simp [Str.length]
      have : x.cps.toList.drop (c + y.length) = t := by rw [← List.drop_drop, ← ht, ← hyl, List.drop_left]
      rw [this] at ih
      rw [← ht]
      exact .hit _ _ ih)
    exact this
theorem strKind_pos (x : Str) : 1 ≤ Builtin.Str.strKind x := by unfold Builtin.Str.strKind; split <;> (try split) <;> omega
theorem rep_split {x y z : Str} (hw : 1 ≤ y.length) (hk : Builtin.Str.strKind y = 1) : Rep y.cps.toList z.cps.toList x.cps.toList (Txt.join z (Txt.split x y)).cps.toList := by
  obtain ⟨f, hG, hn⟩ := occ_tight x y hw
  have hx := chain_rep (z := z) hw _ 0 f hG hn
  have key : ∀ (l : List Nat), ChainG x y x.length 0 l f → l = [] → Rep y.cps.toList z.cps.toList x.cps.toList (Txt.join z [x]).cps.toList := by
    intro l h e
    subst e
    have := chain_rep (z := z) hw _ 0 f h hn
    show Rep _ _ _ (glued z [x]).cps.toList
    rw [glued_eq_join]
    show Rep _ _ _ x.cps.toList
    have e1 : Str.join z (partsFrom x y.length 0 []) = x := sub_whole x
    rwa [e1, List.drop_zero] at this
  unfold Txt.split
  split
  · rename_i hc
    rw [Bool.or_eq_true, decide_eq_true_eq, decide_eq_true_eq] at hc
    have hlt : x.length < y.length := by
      rcases hc with h | h
      · exact h
      · have := strKind_pos x; omega
    refine key _ hG ?_
    cases hO : occurrences x y 0 x.length (x.length + 1) with
    | nil => rfl
    | cons c r =>
      rw [hO] at hG
      have := hG.2.1.1
      omega
  · split
    · rename_i he
      exact key _ hG (List.isEmpty_iff.mp he)
    · rw [partsBetween_eq]
      show Rep _ _ _ (glued z _).cps.toList
      rw [glued_eq_join]
      exact hx
theorem rep_split_eq {x y z : Str} {r : List Nat} (hw : 1 ≤ y.length) (hk : Builtin.Str.strKind y = 1) (h : Rep y.cps.toList z.cps.toList x.cps.toList r) : (Txt.join z (Txt.split x y)).cps.toList = r := by
  have hy : y.cps.toList ≠ [] := fun e => by have : y.cps.toList.length = 0 := by rw [e]; rfl
                                             have hl : y.cps.toList.length = y.length := by simp [Str.length]
                                             omega
  exact (rep_split hw hk).det hy _ h
theorem rep_replace {x y z : Str} (hw : 1 ≤ y.length) : Rep y.cps.toList z.cps.toList x.cps.toList (Txt.replace x y z).cps.toList := by
  obtain ⟨f, hG, hn⟩ := occ_tight x y hw
  have hx := chain_rep (z := z) hw _ 0 f hG hn
  unfold Txt.replace
  split
  · rename_i hc
    rw [Bool.or_eq_true] at hc
    have e0 : occurrences x y 0 x.length (x.length + 1) = [] := by
      rcases hc with h | h
      · exact List.isEmpty_iff.mp h
      · rw [Bool.and_eq_true, beq_iff_eq] at h; omega
    rw [e0] at hx
    have e1 : Str.join z (partsFrom x y.length 0 []) = x := sub_whole x
    rwa [e1, List.drop_zero] at hx
  · rw [partsBetween_eq, glued_eq_join]
    exact hx
/-! ### the texts as lists -/
def esc (m : List Nat) (c : Nat) : List Nat := if c = 39 then m else [c]
def escs (m w : List Nat) : List Nat := w.flatMap (esc m)
abbrev oursL : List Nat := [39, 34, 39, 34, 39]
abbrev theirsL : List Nat := [39, 92, 39, 39]
def openL (m : List Nat) : List Nat → List Nat
  | 34 :: 39 :: r => m ++ 34 :: openL m r
  | w => 39 :: (escs m w ++ [39])
def markL (bare : List Nat → Bool) (m w : List Nat) : List Nat := if bare w = true then w else 39 :: (escs m w ++ [39])
def turnL (bare : List Nat → Bool) (m w : List Nat) : List Nat := if bare w = true then w else openL m w
def lineL : List (List Nat) → List Nat
  | [] => []
  | [x] => x
  | x :: r => x ++ 32 :: lineL r
theorem escs_q (m w : List Nat) : escs m (39 :: w) = m ++ escs m w := rfl
theorem escs_o (m w : List Nat) {c : Nat} (h : c ≠ 39) : escs m (c :: w) = c :: escs m w := by simp [escs, esc, h]
theorem rep_escq (w r : List Nat) {m : List Nat} (hr : r = escs m w) : Rep [39] m w r := by
  subst hr
  induction w with
  | nil => exact .nil
  | cons c w ih =>
    by_cases h : c = 39
    · subst h; exact .hit w _ ih
    · rw [escs_o m w h]
      exact .go c _ _ (fun q => h (by simpa using (List.cons_prefix_cons.mp q).1.symm)) ih
def Sp (t : List Nat) : Prop := t = [] ∨ ∃ r, t = 32 :: r
section
variable {b t t' : List Nat}
theorem rep_free {p : List Nat} {q : Nat} {ps : List Nat} (hp : p = q :: ps) (h : Rep p b t t') : ∀ w : List Nat, q ∉ w → Rep p b (w ++ t) (w ++ t')
  | [], _ => h
  | c :: w, hn => .go c _ _ (fun e => by
      subst hp
      have := (List.cons_prefix_cons.mp e).1
      subst this
      exact hn (.head _)) (rep_free hp h w fun e => hn (.tail _ e))
theorem ours_body (ht : Sp t) (h : Rep oursL b t t') : ∀ w, Rep oursL b (escs oursL w ++ 39 :: t) (escs b w ++ 39 :: t')
  | [] => .go 39 _ _ (fun e => by
      have e2 := (List.cons_prefix_cons.mp e).2
      rcases ht with rfl | ⟨r, rfl⟩
      · simp at e2
      · simp at e2) h
  | c :: w => by
    by_cases hc : c = 39
    · subst hc
      rw [escs_q, escs_q, List.append_assoc, List.append_assoc]
      exact .hit _ _ (ours_body ht h w)
    · rw [escs_o _ _ hc, escs_o _ _ hc]
      exact .go c _ _ (fun e => hc (List.cons_prefix_cons.mp e).1.symm) (ours_body ht h w)
theorem theirs_body (ht : Sp t) (h : Rep theirsL b t t') : ∀ w, Rep theirsL b (escs theirsL w ++ 39 :: t) (escs b w ++ 39 :: t')
  | [] => .go 39 _ _ (fun e => by
      have e2 := (List.cons_prefix_cons.mp e).2
      rcases ht with rfl | ⟨r, rfl⟩
      · simp at e2
      · simp at e2) h
  | c :: w => by
    by_cases hc : c = 39
    · subst hc
      rw [escs_q, escs_q, List.append_assoc, List.append_assoc]
      exact .hit _ _ (theirs_body ht h w)
    · rw [escs_o _ _ hc, escs_o _ _ hc]
      exact .go c _ _ (fun e => hc (List.cons_prefix_cons.mp e).1.symm) (theirs_body ht h w)
theorem theirs_word (ht : Sp t) (h : Rep theirsL b t t') (w : List Nat) : Rep theirsL b (39 :: (escs theirsL w ++ 39 :: t)) (39 :: (escs b w ++ 39 :: t')) := by
  refine .go 39 _ _ (fun e => ?_) (theirs_body ht h w)
  have e2 := (List.cons_prefix_cons.mp e).2
  match w, e2 with
  | [], e2 => simp [escs] at e2
  | c :: w, e2 =>
    by_cases hc : c = 39
    · subst hc; simp [escs, esc] at e2
    · rw [escs_o _ _ hc, List.cons_append] at e2
      have e3 := (List.cons_prefix_cons.mp e2).2
      match w, e3 with
      | [], e3 =>
        rcases ht with rfl | ⟨r, rfl⟩
        · simp [escs] at e3
        · simp [escs] at e3
      | d :: w, e3 =>
        by_cases hd : d = 39
        · subst hd; simp [escs, esc] at e3
        · rw [escs_o _ _ hd, List.cons_append] at e3
          exact hd (List.cons_prefix_cons.mp e3).1.symm
theorem openL_else {m w : List Nat} (h : ∀ r, w ≠ 34 :: 39 :: r) : openL m w = 39 :: (escs m w ++ [39]) := by
  unfold openL
  split
  · exact absurd rfl (h _)
  · rfl
theorem ours_word (ht : Sp t) (h : Rep oursL b t t') : ∀ (n : Nat) (w : List Nat), w.length ≤ n → Rep oursL b (39 :: (escs oursL w ++ 39 :: t)) (openL b w ++ t')
  | 0, w, hn => by
    have : w = [] := List.length_eq_zero_iff.mp (by omega)
    subst this
    exact .go 39 _ _ (fun e => by simp [escs] at e) (ours_body ht h [])
  | n + 1, w, hn => by
    by_cases hw : ∃ r, w = 34 :: 39 :: r
    · obtain ⟨r, rfl⟩ := hw
      have ih := ours_word ht h n r (by simp at hn; omega)
      have e : 39 :: (escs oursL (34 :: 39 :: r) ++ 39 :: t) = oursL ++ (34 :: 39 :: (escs oursL r ++ 39 :: t)) := rfl
      have e2 : openL b (34 :: 39 :: r) ++ t' = b ++ (34 :: (openL b r ++ t')) := by rw [openL, List.append_assoc]; rfl
      rw [e, e2]
      exact .hit _ _ (.go 34 _ _ (fun q => by simp at q) ih)
    · have hw' : ∀ r, w ≠ 34 :: 39 :: r := fun r e => hw ⟨r, e⟩
      rw [openL_else hw']
      have e0 : 39 :: (escs b w ++ [39]) ++ t' = 39 :: (escs b w ++ 39 :: t') := by simp
      rw [e0]
      refine .go 39 _ _ (fun e => ?_) (ours_body ht h w)
      have e2 := (List.cons_prefix_cons.mp e).2
      match w, e2 with
      | [], e2 => simp [escs] at e2
      | c :: w, e2 =>
        by_cases hc : c = 39
        · subst hc; simp [escs, esc] at e2
        · rw [escs_o _ _ hc, List.cons_append] at e2
          obtain ⟨e4, e3⟩ := List.cons_prefix_cons.mp e2
          match w, e3 with
          | [], e3 =>
            rcases ht with rfl | ⟨r, rfl⟩
            · simp [escs] at e3
            · simp [escs] at e3
          | d :: w, e3 =>
            by_cases hd : d = 39
            · subst hd; exact hw' w (by rw [← e4])
            · rw [escs_o _ _ hd, List.cons_append] at e3
              exact hd (List.cons_prefix_cons.mp e3).1.symm
theorem theirs_open (ht : Sp t) (h : Rep theirsL oursL t t') : ∀ (n : Nat) (w : List Nat), w.length ≤ n → Rep theirsL oursL (openL theirsL w ++ t) (39 :: (escs oursL w ++ 39 :: t'))
  | 0, w, hn => by
    have : w = [] := List.length_eq_zero_iff.mp (by omega)
    subst this
    exact theirs_word ht h []
  | n + 1, w, hn => by
    by_cases hw : ∃ r, w = 34 :: 39 :: r
    · obtain ⟨r, rfl⟩ := hw
      have ih := theirs_open ht h n r (by simp at hn; omega)
      have e : openL theirsL (34 :: 39 :: r) ++ t = theirsL ++ (34 :: (openL theirsL r ++ t)) := by rw [openL, List.append_assoc]; rfl
      have e2 : 39 :: (escs oursL (34 :: 39 :: r) ++ 39 :: t') = oursL ++ (34 :: (39 :: (escs oursL r ++ 39 :: t'))) := rfl
      rw [e, e2]
      exact .hit _ _ (.go 34 _ _ (fun q => by simp at q) ih)
    · have hw' : ∀ r, w ≠ 34 :: 39 :: r := fun r e => hw ⟨r, e⟩
      rw [openL_else hw']
      have e0 : 39 :: (escs theirsL w ++ [39]) ++ t = 39 :: (escs theirsL w ++ 39 :: t) := by simp
      rw [e0]
      exact theirs_word ht h w
end
theorem lineL_cons (x : List Nat) (r : List (List Nat)) (h : r ≠ []) : lineL (x :: r) = x ++ 32 :: lineL r := by
  cases r with
  | nil => exact absurd rfl h
  | cons _ _ => rfl
theorem rep_line {p b : List Nat} {q : Nat} {ps : List Nat} (hp : p = q :: ps) (hq : q ≠ 32) {f g : List Nat → List Nat} (hw : ∀ w t t', Sp t → Rep p b t t' → Rep p b (f w ++ t) (g w ++ t')) : ∀ ws : List (List Nat), Rep p b (lineL (ws.map f)) (lineL (ws.map g))
  | [] => .nil
  | [w] => by simpa [lineL] using hw w [] [] (.inl rfl) .nil
  | w :: w' :: r => by
    have ih := rep_line hp hq hw (w' :: r)
    rw [List.map_cons, List.map_cons (f := g), lineL_cons (f w) _ (by simp), lineL_cons (g w) _ (by simp)]
    exact hw w _ _ (.inr ⟨_, rfl⟩) (.go 32 _ _ (fun e => by subst hp; exact hq (List.cons_prefix_cons.mp e).1) ih)
section
variable {bare : List Nat → Bool} (hb : ∀ w, bare w = true → 39 ∉ w) (ws : List (List Nat))
include hb
theorem line_turn (m : List Nat) : Rep oursL m (lineL (ws.map (markL bare oursL))) (lineL (ws.map (turnL bare m))) := by
  refine rep_line rfl (by decide) (fun w t t' ht h => ?_) ws
  unfold markL turnL
  split
  · rename_i hw; exact rep_free rfl h w (hb w hw)
  · have := ours_word (b := m) ht h _ w (Nat.le_refl _)
    simpa using this
theorem line_other : Rep theirsL oursL (lineL (ws.map (markL bare theirsL))) (lineL (ws.map (markL bare oursL))) := by
  refine rep_line rfl (by decide) (fun w t t' ht h => ?_) ws
  unfold markL
  split
  · rename_i hw; exact rep_free rfl h w (hb w hw)
  · have := theirs_word ht h w
    simpa using this
theorem line_back : Rep theirsL oursL (lineL (ws.map (turnL bare theirsL))) (lineL (ws.map (markL bare oursL))) := by
  refine rep_line rfl (by decide) (fun w t t' ht h => ?_) ws
  unfold markL turnL
  split
  · rename_i hw; exact rep_free rfl h w (hb w hw)
  · have := theirs_open ht h _ w (Nat.le_refl _)
    simpa using this
end
end
section
open PySem PySem.W PySem.StrLaws
set_option maxRecDepth 100000
set_option maxHeartbeats 400000
abbrev wsL : List Nat := [32, 9, 13, 10]
inductive TR
  | done (st : Option Nat) (tok : Str) (q : Bool) (rest : List Nat)
  | err
def tokRun : List Nat → Nat → Str → Bool → Nat → TR
  | [], k, tok, q, _ => if k = 39 ∨ k = 34 ∨ k = 92 then .err else .done none tok q []
  | c :: r, k, tok, q, e =>
    if k = 39 ∨ k = 34 then
      if c = k then tokRun r 97 tok true e
      else if c = 92 ∧ k = 34 then tokRun r 92 tok true 34
      else tokRun r k (tok ++ ⟨#[c]⟩) true e
    else if k = 92 then tokRun r e ((if e = 34 ∧ c ≠ 92 ∧ c ≠ 34 then tok ++ ⟨#[92]⟩ else tok) ++ ⟨#[c]⟩) q e
    else if c ∈ wsL then (if tok ≠ Str.ofString "" ∨ q = true then .done (some 32) tok q r else tokRun r 32 tok q e)
    else if c = 39 ∨ c = 34 then tokRun r c tok q e
    else if c = 92 then tokRun r 92 tok q 97
    else tokRun r 97 (if k = 32 then ⟨#[c]⟩ else tok ++ ⟨#[c]⟩) q e
def tokRunO (l : List Nat) (st : Option Nat) (tok : Str) (q : Bool) (e : Nat) : TR := match st with
  | none => .done none (Str.ofString "") q []
  | some k => tokRun l k tok q e
section
variable {c k e : Nat} {r : List Nat} {tok : Str} {q : Bool}
theorem tr_ws (hk : k = 32 ∨ k = 97) (h : c ∈ wsL) (ht : tok ≠ Str.ofString "" ∨ q = true) : tokRun (c :: r) k tok q e = .done (some 32) tok q r := by
  rw [tokRun, if_neg (by omega), if_neg (by omega), if_pos h, if_pos ht]
theorem tr_ws0 (hk : k = 32 ∨ k = 97) (h : c ∈ wsL) (ht : tok = Str.ofString "") (hq : q = false) : tokRun (c :: r) k tok q e = tokRun r 32 tok q e := by
  rw [tokRun, if_neg (by omega), if_neg (by omega), if_pos h, if_neg (by rw [hq]; simp [ht])]
theorem wsN (h : c ∈ wsL) : c = 32 ∨ c = 9 ∨ c = 13 ∨ c = 10 := by simpa [wsL] using h
theorem tr_esc (hk : k = 32 ∨ k = 97) (h : c = 92) : tokRun (c :: r) k tok q e = tokRun r 92 tok q 97 := by
  rw [tokRun, if_neg (by omega), if_neg (by omega), if_neg (fun h' => by have := wsN h'; omega), if_neg (by omega), if_pos h]
theorem tr_quo (hk : k = 32 ∨ k = 97) (h : c = 39 ∨ c = 34) : tokRun (c :: r) k tok q e = tokRun r c tok q e := by
  rw [tokRun, if_neg (by omega), if_neg (by omega), if_neg (fun h' => by have := wsN h'; omega), if_pos h]
theorem tr_oth32 (h1 : c ∉ wsL) (h2 : ¬ (c = 39 ∨ c = 34)) (h3 : c ≠ 92) : tokRun (c :: r) 32 tok q e = tokRun r 97 ⟨#[c]⟩ q e := by
  rw [tokRun, if_neg (by omega), if_neg (by omega), if_neg h1, if_neg h2, if_neg h3, if_pos rfl]
theorem tr_oth97 (h1 : c ∉ wsL) (h2 : ¬ (c = 39 ∨ c = 34)) (h3 : c ≠ 92) : tokRun (c :: r) 97 tok q e = tokRun r 97 (tok ++ ⟨#[c]⟩) q e := by
  rw [tokRun, if_neg (by omega), if_neg (by omega), if_neg h1, if_neg h2, if_neg h3, if_neg (by decide)]
theorem tr_qclose (hk : k = 39 ∨ k = 34) (h : c = k) : tokRun (c :: r) k tok q e = tokRun r 97 tok true e := by
  rw [tokRun, if_pos hk, if_pos h]
theorem tr_qesc (h : c = 92) : tokRun (c :: r) 34 tok q e = tokRun r 92 tok true 34 := by
  rw [tokRun, if_pos (by omega), if_neg (by omega), if_pos ⟨h, rfl⟩]
theorem tr_qoth (hk : k = 39 ∨ k = 34) (h : c ≠ k) (h2 : ¬ (c = 92 ∧ k = 34)) : tokRun (c :: r) k tok q e = tokRun r k (tok ++ ⟨#[c]⟩) true e := by
  rw [tokRun, if_pos hk, if_neg h, if_neg h2]
theorem tr_e1 (h : e = 34 ∧ c ≠ 92 ∧ c ≠ 34) : tokRun (c :: r) 92 tok q e = tokRun r e (tok ++ ⟨#[92]⟩ ++ ⟨#[c]⟩) q e := by
  rw [tokRun, if_neg (by omega), if_pos rfl, if_pos h]
theorem tr_e0 (h : ¬ (e = 34 ∧ c ≠ 92 ∧ c ≠ 34)) : tokRun (c :: r) 92 tok q e = tokRun r e (tok ++ ⟨#[c]⟩) q e := by
  rw [tokRun, if_neg (by omega), if_pos rfl, if_neg h]
end

theorem e0S : Str.ofString "" = ⟨#[]⟩ := by decide +kernel
theorem e0N (tok : Str) (c : Nat) : tok ++ (⟨#[c]⟩ : Str) ≠ Str.ofString "" := fun h => by
  rw [e0S] at h
  have : (tok.cps ++ #[c]).size = 0 := congrArg (fun s : Str => s.cps.size) h
  simp at this
def endTok (t : List Nat) (tok : Str) (q : Bool) : TR := match t with
  | [] => .done none tok q []
  | _ :: r => .done (some 32) tok q r
theorem end97 {t : List Nat} (ht : Sp t) {tok : Str} {q : Bool} {e : Nat} (h : tok ≠ Str.ofString "" ∨ q = true) : tokRun t 97 tok q e = endTok t tok q := by
  rcases ht with rfl | ⟨r, rfl⟩
  · simp [tokRun, endTok]
  · rw [tr_ws (.inr rfl) (by decide) h]; rfl
def ofL (l : List Nat) : Str := ⟨l.toArray⟩
theorem ofL_nil : ofL [] = Str.ofString "" := e0S.symm
theorem app_cons (tok : Str) (c : Nat) (w : List Nat) : tok ++ ofL (c :: w) = (tok ++ (⟨#[c]⟩ : Str)) ++ ofL w := by
  apply Str.ext'
  show tok.cps ++ (c :: w).toArray = (tok.cps ++ #[c]) ++ w.toArray
  apply Array.toList_inj.mp
  simp
theorem app_nil (tok : Str) : tok ++ ofL [] = tok := by
  apply Str.ext'
  show tok.cps ++ #[] = tok.cps
  simp
theorem tok_body {t : List Nat} (ht : Sp t) : ∀ (w : List Nat) (tok : Str) (q : Bool) (e : Nat), tokRun (escs theirsL w ++ 39 :: t) 39 tok q e = endTok t (tok ++ ofL w) true
  | [], tok, q, e => by
    rw [show escs theirsL [] ++ 39 :: t = 39 :: t from rfl, tr_qclose (.inl rfl) rfl, end97 ht (.inr rfl), app_nil]
  | c :: w, tok, q, e => by
    by_cases hc : c = 39
    · subst hc
      rw [escs_q, show theirsL ++ escs theirsL w ++ 39 :: t = 39 :: 92 :: 39 :: 39 :: (escs theirsL w ++ 39 :: t) from rfl,
        tr_qclose (.inl rfl) rfl, tr_esc (.inr rfl) rfl, tr_e0 (by decide), tr_quo (.inr rfl) (.inl rfl), tok_body ht w, app_cons]
    · rw [escs_o _ _ hc, List.cons_append, tr_qoth (.inl rfl) hc (by omega), tok_body ht w, app_cons]
def Plain (w : List Nat) : Prop := ∀ c ∈ w, c ∉ wsL ∧ c ≠ 39 ∧ c ≠ 34 ∧ c ≠ 92
theorem tok_bare97 {t : List Nat} (ht : Sp t) {e : Nat} : ∀ (w : List Nat) (tok : Str), Plain w → tok ≠ Str.ofString "" → tokRun (w ++ t) 97 tok false e = endTok t (tok ++ ofL w) false
  | [], tok, _, hk => by rw [List.nil_append, end97 ht (.inl hk), app_nil]
  | c :: w, tok, hp, hk => by
    have hc := hp c (.head _)
    rw [List.cons_append, tr_oth97 hc.1 (by omega) hc.2.2.2, tok_bare97 ht w _ (fun d hd => hp d (.tail _ hd)) (e0N _ _), app_cons]
theorem tok_mark {bare : List Nat → Bool} (hb : ∀ w, bare w = true → w ≠ [] ∧ Plain w) {t : List Nat} (ht : Sp t) (w : List Nat) (e : Nat) :
    ∃ q, tokRun (markL bare theirsL w ++ t) 32 (Str.ofString "") false e = endTok t (ofL w) q ∧ ¬ (ofL w = Str.ofString "" ∧ q = false) := by
  unfold markL
  split
  · rename_i hw
    obtain ⟨hn, hp⟩ := hb w hw
    cases w with
    | nil => exact absurd rfl hn
    | cons c w =>
      have hc := hp c (.head _)
      have hne : (⟨#[c]⟩ : Str) ≠ Str.ofString "" := fun h => by rw [e0S] at h; simp at h
      have e1 : (⟨#[c]⟩ : Str) ++ ofL w = ofL (c :: w) := by apply Str.ext'; show #[c] ++ w.toArray = (c :: w).toArray; simp
      refine ⟨false, ?_, ?_⟩
      · rw [List.cons_append, tr_oth32 hc.1 (by omega) hc.2.2.2, tok_bare97 ht w _ (fun d hd => hp d (.tail _ hd)) hne, e1]
      · rintro ⟨h, _⟩
        rw [e0S] at h
        have := congrArg (fun s : Str => s.cps.size) h
        simp [ofL] at this
  · refine ⟨true, ?_, fun h => by cases h.2⟩
    rw [List.cons_append, tr_quo (.inl rfl) (.inl rfl), List.append_assoc, show [39] ++ t = 39 :: t from rfl, tok_body ht w]
    congr 1
    apply Str.ext'
    show (Str.ofString "").cps ++ (ofL w).cps = (ofL w).cps
    rw [e0S]; simp
def toldN : Nat → List Nat → Option Nat → Option (List Str)
  | 0, _, _ => none
  | n + 1, l, st => match tokRunO l st (Str.ofString "") false 32 with
    | .err => none
    | .done st' tok q r => if tok = Str.ofString "" ∧ q = false then some [] else (toldN n r st').map (tok :: ·)
theorem told_stop (n : Nat) (r : List Nat) : toldN (n + 1) r none = some [] := by
  unfold toldN tokRunO
  simp
theorem sp_line (r : List (List Nat)) : Sp (32 :: lineL r) := .inr ⟨_, rfl⟩
section
variable {bare : List Nat → Bool} (hb : ∀ w, bare w = true → w ≠ [] ∧ Plain w)
include hb
theorem told_step {n : Nat} {w t : List Nat} (ht : Sp t) : toldN (n + 1) (markL bare theirsL w ++ t) (some 32) = (match t with | [] => toldN n [] none | _ :: r => toldN n r (some 32)).map (ofL w :: ·) := by
  obtain ⟨q, h1, h2⟩ := tok_mark hb ht w 32
  conv => lhs; unfold toldN
  rw [show tokRunO (markL bare theirsL w ++ t) (some 32) (Str.ofString "") false 32 = tokRun (markL bare theirsL w ++ t) 32 (Str.ofString "") false 32 from rfl, h1]
  rcases ht with rfl | ⟨r, rfl⟩
  · simp only [endTok]; rw [if_neg h2]
  · simp only [endTok]; rw [if_neg h2]
theorem told_line : ∀ (ws : List (List Nat)) (n : Nat), ws.length < n → toldN n (lineL (ws.map (markL bare theirsL))) (some 32) = some (ws.map ofL)
  | [], n + 1, _ => by unfold toldN; simp [lineL, tokRunO, tokRun]
  | [w], n + 2, _ => by
    have := told_step hb (n := n + 1) (w := w) (t := []) (.inl rfl)
    rw [List.append_nil] at this
    show toldN (n + 2) (markL bare theirsL w) (some 32) = _
    rw [this, told_stop]; rfl
  | [w], 1, h => by simp at h
  | w :: w' :: r, n + 1, h => by
    rw [List.map_cons, lineL_cons _ _ (by simp), told_step hb (sp_line _)]
    simp only
    rw [told_line (w' :: r) n (by simp at h ⊢; omega)]
    rfl
end
def H92 (tok : Str) : Prop := tok.cps.toList.head? = some 92
theorem H92.app {tok : Str} (h : H92 tok) (c : Nat) : H92 (tok ++ (⟨#[c]⟩ : Str)) := by
  unfold H92 at h ⊢
  show (tok.cps ++ #[c]).toList.head? = _
  rw [Array.toList_append]
  cases hl : tok.cps.toList with
  | nil => rw [hl] at h; cases h
  | cons a r => rw [hl] at h; simpa using h
theorem H92.ne {tok : Str} (h : H92 tok) : tok ≠ Str.ofString "" := fun e => by
  subst e
  rw [e0S] at h
  cases h
theorem tok_pre : ∀ (l : List Nat) (k : Nat) (tok : Str) (q : Bool) (e : Nat), (k = 97 ∨ k = 39 ∨ k = 34 ∨ (k = 92 ∧ (e = 97 ∨ e = 34))) → H92 tok →
    tokRun l k tok q e = .err ∨ ∃ st tok' q' r, tokRun l k tok q e = .done st tok' q' r ∧ H92 tok'
  | [], k, tok, q, e, hk, ht => by
    unfold tokRun
    split
    · exact .inl rfl
    · exact .inr ⟨_, _, _, _, rfl, ht⟩
  | c :: r, k, tok, q, e, hk, ht => by
    by_cases h1 : k = 39 ∨ k = 34
    · by_cases h2 : c = k
      · rw [tr_qclose h1 h2]; exact tok_pre r _ _ _ _ (.inl rfl) ht
      · by_cases h3 : c = 92 ∧ k = 34
        · obtain ⟨rfl, rfl⟩ := h3
          rw [tr_qesc rfl]; exact tok_pre r _ _ _ _ (by omega) ht
        · rw [tr_qoth h1 h2 h3]; exact tok_pre r _ _ _ _ (by omega) (ht.app c)
    · by_cases h2 : k = 92
      · subst h2
        by_cases h3 : e = 34 ∧ c ≠ 92 ∧ c ≠ 34
        · rw [tr_e1 h3]; exact tok_pre r _ _ _ _ (by omega) ((ht.app _).app _)
        · rw [tr_e0 h3]; exact tok_pre r _ _ _ _ (by omega) (ht.app _)
      · have hk' : k = 97 := by omega
        subst hk'
        by_cases h3 : c ∈ wsL
        · rw [tr_ws (.inr rfl) h3 (.inl ht.ne)]
          exact .inr ⟨_, _, _, _, rfl, ht⟩
        · by_cases h4 : c = 39 ∨ c = 34
          · rw [tr_quo (.inr rfl) h4]; exact tok_pre r _ _ _ _ (by omega) ht
          · by_cases h5 : c = 92
            · rw [tr_esc (.inr rfl) h5]; exact tok_pre r _ _ _ _ (by omega) ht
            · rw [tr_oth97 h3 h4 h5]; exact tok_pre r _ _ _ _ (by omega) (ht.app _)
section
variable {bare : List Nat → Bool} (hb : ∀ w, bare w = true → w ≠ [] ∧ Plain w)
include hb
omit hb in
theorem turn_mark {m w : List Nat} (h : ∀ r, w ≠ 34 :: 39 :: r) : turnL bare m w = markL bare m w := by
  unfold turnL markL
  rw [openL_else h]
theorem told_bad_word {w t : List Nat} (n : Nat) (h : ∃ r, w = 34 :: 39 :: r) : ∀ ws, toldN (n + 1) (turnL bare theirsL w ++ t) (some 32) ≠ some (ofL w :: ws) := by
  obtain ⟨r, rfl⟩ := h
  have hnb : ¬ bare (34 :: 39 :: r) = true := fun h => by
    have := (hb _ h).2 39 (by simp)
    omega
  intro ws
  unfold turnL
  rw [if_neg hnb]
  unfold toldN
  have e1 : tokRunO (openL theirsL (34 :: 39 :: r) ++ t) (some 32) (Str.ofString "") false 32 = tokRun ([39, 39, 34] ++ (openL theirsL r ++ t)) 39 (⟨#[92]⟩ : Str) true 32 := by
    show tokRun (openL theirsL (34 :: 39 :: r) ++ t) 32 (Str.ofString "") false 32 = _
    rw [openL, show theirsL ++ 34 :: openL theirsL r ++ t = 39 :: 92 :: ([39, 39, 34] ++ (openL theirsL r ++ t)) from by simp, tr_quo (.inl rfl) (.inl rfl), tr_qoth (.inl rfl) (by decide) (by decide)]
    congr 1
  rw [e1]
  rcases tok_pre ([39, 39, 34] ++ (openL theirsL r ++ t)) 39 (⟨#[92]⟩ : Str) true 32 (by omega) rfl with h | ⟨st, tok', q', r', h, h92⟩
  · rw [h]; simp
  · rw [h]
    simp only
    rw [if_neg (fun q => h92.ne q.1)]
    cases toldN n r' st with
    | none => simp
    | some ts =>
      simp only [Option.map_some, ne_eq, Option.some.injEq, List.cons.injEq, not_and]
      intro e
      subst e
      cases h92
theorem told_bad : ∀ (ws : List (List Nat)) (n : Nat), ws.length < n → (∃ w ∈ ws, ∃ r, w = 34 :: 39 :: r) → toldN n (lineL (ws.map (turnL bare theirsL))) (some 32) ≠ some (ws.map ofL)
  | [], _, _, h => by obtain ⟨_, h, _⟩ := h; cases h
  | [w], n + 1, _, h => by
    obtain ⟨w', hm, h⟩ := h
    rw [List.mem_singleton] at hm
    subst hm
    have := told_bad_word hb (t := []) n h []
    rwa [List.append_nil] at this
  | w :: w' :: r, n + 1, hl, h => by
    by_cases hw : ∃ r, w = 34 :: 39 :: r
    · rw [List.map_cons, lineL_cons _ _ (by simp)]
      exact told_bad_word hb n hw _
    · have hw' : ∀ r, w ≠ 34 :: 39 :: r := fun r e => hw ⟨r, e⟩
      have ih := told_bad (w' :: r) n (by simp at hl ⊢; omega) (by
        obtain ⟨v, hm, h⟩ := h
        rcases List.mem_cons.mp hm with rfl | hm
        · exact absurd h hw
        · exact ⟨v, hm, h⟩)
      rw [List.map_cons, lineL_cons _ _ (by simp), turn_mark hw', told_step hb (sp_line _)]
      simp only
      cases hq : toldN n (lineL ((w' :: r).map (turnL bare theirsL))) (some 32) with
      | none => simp
      | some ts =>
        rw [hq] at ih
        intro e
        apply ih
        simpa using e
end
end
local macro_rules | `(tactic| walk_at "m punct") => `(tactic| (k_dflt (refine' get_prop ?k1 ?k2 ?k3 ?k4 ?k5 ?k6 ?k7 ?k8 ?k9 ?_; (case k1 => k_asm); (case k2 => k_asm); (case k3 => k_inst); (case k4 => k_is); (case k5 => k_is); (case k6 => k_is); (case k7 => k_is); (case k8 => k_is); (case k9 => k_is); k_whole)))
local macro_rules | `(tactic| walk_at "m stop") => `(tactic| ((fail_if_success (with_reducible show wpAny _ _ (getAttr (Value.ref _) (Str.ofString "punctuation_chars") _) _ _ _)); (fail_if_success (with_reducible show wpAny _ _ (getAttr (Value.ref _) (Str.ofString "state") _) _ _ _)); (walk_at "m step")))
local macro_rules | `(tactic| walk_at "compareOp Eq str str") => `(tactic| first | (refine eqsT (by decide +kernel) ?_) | (refine eqsF (by decide +kernel) ?_))
section
open PySem PySem.W PySem.Calls PySem.Spec PyProof.Rows
set_option maxRecDepth 100000
set_option maxHeartbeats 0
local macro_rules | `(tactic| walk_at "compareOp In str str") => `(tactic| first | (refine in1t (by decide +kernel) ?_) | (refine in1f (by decide +kernel) ?_) | (refine in1f (List.not_mem_nil) ?_) | (refine in1 ?_ ?_ <;> intro hIn))
local macro_rules | `(tactic| walk_at "compareOp NotIn str str") => `(tactic| (refine notIn1f (List.not_mem_nil) ?_))
structure LexC where
  (sx dq1 dq2 : Addr)
  (wc : Str)
  (k0 k1 k2 k3 k4 k5 k6 k7 k8 k9 k10 k11 k12 k13 k14 k15 k16 k17 k18 v4 v5 v6 v8 v9 v10 v14 v18 : Tok)
abbrev lexE (w : World) (c : LexC) (st : Value) (tok : Str) (tt : Tok) (ln : Int) (tl : Tok) : List DictEntry :=
  [⟨PyData.keyHash w.params (Str.ofString "instream"), .str (Str.ofString "instream") c.k0, .ref c.sx⟩,
   ⟨PyData.keyHash w.params (Str.ofString "infile"), .str (Str.ofString "infile") c.k1, .none⟩,
   ⟨PyData.keyHash w.params (Str.ofString "posix"), .str (Str.ofString "posix") c.k2, .bool true⟩,
   ⟨PyData.keyHash w.params (Str.ofString "eof"), .str (Str.ofString "eof") c.k3, .none⟩,
   ⟨PyData.keyHash w.params (Str.ofString "commenters"), .str (Str.ofString "commenters") c.k4, .str (Str.ofString "") c.v4⟩,
   ⟨PyData.keyHash w.params (Str.ofString "wordchars"), .str (Str.ofString "wordchars") c.k5, .str c.wc c.v5⟩,
   ⟨PyData.keyHash w.params (Str.ofString "whitespace"), .str (Str.ofString "whitespace") c.k6, .str (Str.ofString " \t\r\n") c.v6⟩,
   ⟨PyData.keyHash w.params (Str.ofString "whitespace_split"), .str (Str.ofString "whitespace_split") c.k7, .bool true⟩,
   ⟨PyData.keyHash w.params (Str.ofString "quotes"), .str (Str.ofString "quotes") c.k8, .str (Str.ofString "'\"") c.v8⟩,
   ⟨PyData.keyHash w.params (Str.ofString "escape"), .str (Str.ofString "escape") c.k9, .str (Str.ofString "\\") c.v9⟩,
   ⟨PyData.keyHash w.params (Str.ofString "escapedquotes"), .str (Str.ofString "escapedquotes") c.k10, .str (Str.ofString "\"") c.v10⟩,
   ⟨PyData.keyHash w.params (Str.ofString "state"), .str (Str.ofString "state") c.k11, st⟩,
   ⟨PyData.keyHash w.params (Str.ofString "pushback"), .str (Str.ofString "pushback") c.k12, .ref c.dq1⟩,
   ⟨PyData.keyHash w.params (Str.ofString "lineno"), .str (Str.ofString "lineno") c.k13, .int ln tl⟩,
   ⟨PyData.keyHash w.params (Str.ofString "debug"), .str (Str.ofString "debug") c.k14, .int 0 c.v14⟩,
   ⟨PyData.keyHash w.params (Str.ofString "token"), .str (Str.ofString "token") c.k15, .str tok tt⟩,
   ⟨PyData.keyHash w.params (Str.ofString "filestack"), .str (Str.ofString "filestack") c.k16, .ref c.dq2⟩,
   ⟨PyData.keyHash w.params (Str.ofString "source"), .str (Str.ofString "source") c.k17, .none⟩,
   ⟨PyData.keyHash w.params (Str.ofString "_punctuation_chars"), .str (Str.ofString "_punctuation_chars") c.k18, .str (Str.ofString "") c.v18⟩]

abbrev lexH (w : World) (lx dlx : Addr) (c : LexC) (st : Value) (tok : Str) (tt : Tok) (ln : Int) (tl : Tok) : List (Addr × Obj) := [(lx, instObj 739 dlx), (dlx, dictOf (lexE w c st tok tt ln tl) 19)]
theorem nilS {c : Nat} : c ∉ (Str.ofString "").cps.toList := by
  rw [show (Str.ofString "").cps.toList = [] from by decide +kernel]
  exact List.not_mem_nil
section
variable {prog : Program} {w : World} {A : Around} {E : Value → Shared → Prop} {s : Shared} {Q : Value → Shared → Prop} {c : Nat} {x y : Str} {u t : Tok}
theorem in1 (hT : c ∈ y.cps.toList → Q (.bool true) s) (hF : c ∉ y.cps.toList → Q (.bool false) s) : wpAny (model prog w) A (compareOp .In (.str ⟨#[c]⟩ u) (.str y t)) Q E s := by
  refine in_str ?_
  rw [StrLaws.found_one]
  by_cases h : c ∈ y.cps.toList
  · rw [decide_eq_true h]; exact hT h
  · rw [decide_eq_false h]; exact hF h
theorem in1t (h : c ∈ y.cps.toList) (hT : Q (.bool true) s) : wpAny (model prog w) A (compareOp .In (.str ⟨#[c]⟩ u) (.str y t)) Q E s := in1 (fun _ => hT) fun n => absurd h n
theorem in1f (h : c ∉ y.cps.toList) (hF : Q (.bool false) s) : wpAny (model prog w) A (compareOp .In (.str ⟨#[c]⟩ u) (.str y t)) Q E s := in1 (fun n => absurd n h) fun _ => hF
theorem notIn1f (h : c ∉ y.cps.toList) (hF : Q (.bool true) s) : wpAny (model prog w) A (compareOp .NotIn (.str ⟨#[c]⟩ u) (.str y t)) Q E s := by
  refine notIn_str ?_
  rw [StrLaws.found_one, decide_eq_false h]
  exact hF
theorem eqsT (h : x = y) (hT : Q (.bool true) s) : wpAny (model prog w) A (compareOp .Eq (.str x u) (.str y t)) Q E s := by
  refine PyProof.Rows.eq_str ?_
  rw [show (x == y) = true from by simpa using h]
  exact hT
theorem eqsF (h : x ≠ y) (hT : Q (.bool false) s) : wpAny (model prog w) A (compareOp .Eq (.str x u) (.str y t)) Q E s := by
  refine PyProof.Rows.eq_str ?_
  rw [show (x == y) = false from by simpa using h]
  exact hT
theorem truthy1 {Q : Bool → Shared → Prop} (h : Q true { s with toks := s.toks + 1 + 1 }) : wpAny (model prog w) A (truthy (.str ⟨#[c]⟩ t)) Q E s := by
  have e : ((⟨#[c]⟩ : Str).length : Int) = 1 := rfl
  refine P.truthy_str (by rw [e]; decide) ?_
  rw [e]
  exact h
theorem truthyS {Q : Bool → Shared → Prop} (hl : x.length ≤ 20000) (hT : x ≠ Str.ofString "" → Q true { s with toks := s.toks + 1 + 1 }) (hF : x = Str.ofString "" → Q false { s with toks := s.toks + 1 + 1 }) : wpAny (model prog w) A (truthy (.str x t)) Q E s := by
  refine P.truthy_str (by omega) ?_
  have e0 : Str.ofString "" = ⟨#[]⟩ := by decide +kernel
  by_cases h : x = Str.ofString ""
  · have e : ((x.length : Int) != 0) = false := by rw [h, e0]; rfl
    rw [e]; exact hF h
  · have e : ((x.length : Int) != 0) = true := by
      have : x.length ≠ 0 := fun q => h (by
        rw [e0]
        obtain ⟨a⟩ := x
        have : a = #[] := Array.eq_empty_of_size_eq_zero q
        rw [this])
      simp only [bne_iff_ne, ne_eq]
      omega
    rw [e]; exact hT h
end
theorem c_punct {w : World} {p : Program} {loose : List Str} {mg mb : Str → Option Value} {A : Around} {s : Shared} {R : Result → Shared → Prop} {lx dlx : Addr} {c : LexC} {st : Value} {tok : Str} {tt : Tok} {ln : Int} {tl : Tok}
  (hh : A.handled = none) (hroom : A.depth + 10 < recursionLimit) (hun : A.units + 100 < cLine) (G : Gnd (Mine.kFrag w.params) p loose mg mb s.heap (lexH w lx dlx c st tok tt ln tl))
  (hne : @LT.lt Nat _ dlx lx) (h : ∀ s', Keeps s s' → R (.ok (.ret (.str (Str.ofString "") c.v18))) s') :
  codeAny (model (PySem.Challenge.rw_mj0255_01).prog w) A (.call (.ref 670) ⟨[.ref lx], []⟩) R s := by
  revert G
  k_fill
  intro G
  walk_at "m enterH"
  intro g L h₁ F N KX T hk hlt
  (try dsimp only)
  walk_at "m go"
  (try dsimp only)
  exact h _ ⟨_, _, rfl, keepsAll G hk (by assumption) (by assumption)⟩
end
section
open PySem PySem.W PySem.Calls PySem.Spec PyProof.Rows
set_option maxRecDepth 100000
set_option maxHeartbeats 0
def stV (k : Option Nat) (t : Tok) : Value := match k with | none => .none | some k => .str ⟨#[k]⟩ t
abbrev tokM (lx : Addr) (q : Bool) (e : Nat) (te : Tok) (nc : Option Value) : Str → Option Value := fun y => if y = Str.ofString "quoted" then some (.bool q) else if y = Str.ofString "escapedstate" then some (.str ⟨#[e]⟩ te) else if y = Str.ofString "nextchar" then nc else if y = Str.ofString "self" then some (.ref lx) else none
theorem frCongr {g h : Heap} {L : Addr} {m m' : Str → Option Value} (F : Fr g L h m) (e : ∀ y, m y = m' y) : Fr g L h m' := (funext e : m = m') ▸ F
theorem ne_q_e : Str.ofString "quoted" ≠ Str.ofString "escapedstate" := by decide +kernel
theorem ne_q_n : Str.ofString "quoted" ≠ Str.ofString "nextchar" := by decide +kernel
theorem ne_q_s : Str.ofString "quoted" ≠ Str.ofString "self" := by decide +kernel
theorem ne_e_n : Str.ofString "escapedstate" ≠ Str.ofString "nextchar" := by decide +kernel
theorem ne_e_s : Str.ofString "escapedstate" ≠ Str.ofString "self" := by decide +kernel
theorem ne_n_s : Str.ofString "nextchar" ≠ Str.ofString "self" := by decide +kernel
theorem tokMap {lx : Addr} {q : Bool} {E : Str} {e : Nat} {te : Tok} {m : Str → Option Value} (hq : m (Str.ofString "quoted") = some (.bool q)) (he : m (Str.ofString "escapedstate") = some (.str E te)) (hE : E = ⟨#[e]⟩)
    (hs : ∀ y, y ≠ Str.ofString "quoted" → y ≠ Str.ofString "escapedstate" → y ≠ Str.ofString "nextchar" → m y = if y = Str.ofString "self" then some (.ref lx) else none) : ∀ y, m y = tokM lx q e te (m (Str.ofString "nextchar")) y := fun y => by
  subst hE
  by_cases h1 : y = Str.ofString "quoted"
  · subst h1; simp [tokM, hq]
  by_cases h2 : y = Str.ofString "escapedstate"
  · subst h2; simp [tokM, he, ne_q_e.symm]
  by_cases h3 : y = Str.ofString "nextchar"
  · subst h3; simp [tokM, ne_q_n.symm, ne_e_n.symm]
  · rw [hs y h1 h2 h3]; simp [tokM, h1, h2, h3]
theorem newsTl {g h : Heap} {L : Addr} {p : Addr × Obj} {r : List (Addr × Obj)} (N : News g L h (p :: r)) : News g L h r := fun q hq => N q (.tail _ hq)
theorem nm2 {a b c : Nat} (h1 : a < b) (h2 : b < c) : a ∉ [c, b] := by
  simp only [List.mem_cons, List.not_mem_nil, or_false]
  omega
structure TokOk (x : Str) (i : Nat) (st : Option Nat) (tok : Str) (e : Nat) : Prop where
  le : i ≤ x.length
  len : tok.length ≤ 2 * i
  none : st = none → i = x.length
  st : ∀ k, st = some k → k = 32 ∨ k = 97 ∨ k = 39 ∨ k = 34 ∨ (k = 92 ∧ (e = 97 ∨ e = 34))
theorem okNext {x tok : Str} {i k e : Nat} (hi : i < x.length) (hl : tok.length ≤ 2 * (i + 1)) (hk : k = 32 ∨ k = 97 ∨ k = 39 ∨ k = 34 ∨ (k = 92 ∧ (e = 97 ∨ e = 34))) : TokOk x (i + 1) (some k) tok e :=
  ⟨hi, hl, (fun h => by cases h), (fun _ h => by cases h; exact hk)⟩
theorem eq1 {a b : Nat} (h : ((⟨#[a]⟩ : Str) == ⟨#[b]⟩) = true) : a = b := by
  have : (⟨#[a]⟩ : Str) = ⟨#[b]⟩ := by simpa using h
  simpa using this
theorem ne1 {a b : Nat} (h : ((⟨#[a]⟩ : Str) == ⟨#[b]⟩) = false) : a ≠ b := fun e => by
  subst e
  simp at h
theorem nb1 {a b : Nat} (h : ((⟨#[a]⟩ : Str) != ⟨#[b]⟩) = true) : a ≠ b := fun e => by
  subst e
  simp at h
theorem nb0 {a b : Nat} (h : ((⟨#[a]⟩ : Str) != ⟨#[b]⟩) = false) : a = b := by
  have : (⟨#[a]⟩ : Str) = ⟨#[b]⟩ := by simpa using h
  simpa using this
theorem lenApp1 (tok : Str) (c : Nat) : (tok ++ (⟨#[c]⟩ : Str)).length = tok.length + 1 := by
  show (tok.cps ++ #[c]).size = _
  simp [Str.length]
theorem wsE : (Str.ofString " \t\r\n").cps.toList = wsL := by decide +kernel
theorem quE : (Str.ofString "'\"").cps.toList = [39, 34] := by decide +kernel
theorem esE : (Str.ofString "\\").cps.toList = [92] := by decide +kernel
theorem aE : Str.ofString "a" = ⟨#[97]⟩ := by decide +kernel
theorem dqS : Str.ofString "\"" = ⟨#[34]⟩ := by decide +kernel
theorem spE : Str.ofString " " = ⟨#[32]⟩ := by decide +kernel
theorem dqE : (Str.ofString "\"").cps.toList = [34] := by decide +kernel
section
variable (w : World) (g : Heap) (L : Addr) (s : Shared) (lx dlx dsx : Addr) (c : LexC) (x : Str) (R0 : TR)
def TokJ (n : Nat) (m : Str → Option Value) (news : List (Addr × Obj)) : Prop :=
  ∃ q e te nc i st tks tok tt ln tl a, m = tokM lx q e te nc ∧ news = lexH w lx dlx c (stV st tks) tok tt ln tl ++ sioH w c.sx dsx a x (i : Nat) ∧ TokOk x i st tok e ∧ x.length - i = n ∧ tokRunO (x.cps.toList.drop i) st tok q e = R0
def TokGo (n : Nat) (s₃ : Shared) : Prop :=
  ∃ h' tk q e te nc i st tks tok tt ln tl a, s₃ = { s with heap := h', toks := tk } ∧ Fr g L h' (tokM lx q e te nc) ∧ News g L h' (lexH w lx dlx c (stV st tks) tok tt ln tl ++ sioH w c.sx dsx a x (i : Nat)) ∧ TokOk x i st tok e ∧ x.length - i < n ∧ tokRunO (x.cps.toList.drop i) st tok q e = R0
def TokBrk (s₃ : Shared) : Prop :=
  ∃ h' tk q e te nc i st tks tok tt ln tl a, s₃ = { s with heap := h', toks := tk } ∧ Fr g L h' (tokM lx q e te nc) ∧ News g L h' (lexH w lx dlx c (stV st tks) tok tt ln tl ++ sioH w c.sx dsx a x (i : Nat)) ∧ i ≤ x.length ∧ tok.length ≤ 2 * i ∧ (st = none → i = x.length) ∧ (st = none ∨ st = some 32) ∧ R0 = .done st tok q (x.cps.toList.drop i)
def TokPost (n : Nat) (f : Flow) (s₃ : Shared) : Prop := match f with
  | .next | .cont => TokGo w g L s lx dlx dsx c x R0 n s₃
  | .brk => TokBrk w g L s lx dlx dsx c x R0 s₃
  | .ret _ => False
end
section
variable {prog : Program} {w w' : World} {A : Around} {E : Value → Shared → Prop} {s : Shared} {env : Env} {g : Heap} {L lx dlx dsx : Addr} {c : LexC} {x : Str} {R0 : TR} {Q : Flow → Shared → Prop}
theorem tok_loop {test : Expr} {body : List Stmt} {pos : Pos} {m : Str → Option Value} {news : List (Addr × Obj)} {n₀ : Nat}
    (F : Fr g L s.heap m) (N : News g L s.heap news) (hJ : TokJ w' lx dlx dsx c x R0 n₀ m news)
    (turn : ∀ q e te nc i st tks tok tt ln tl a h₁ tk₁, Fr g L h₁ (tokM lx q e te nc) → News g L h₁ (lexH w' lx dlx c (stV st tks) tok tt ln tl ++ sioH w' c.sx dsx a x (i : Nat)) → TokOk x i st tok e → tokRunO (x.cps.toList.drop i) st tok q e = R0 →
      wpAny (model prog w) A (isTrue test env (eval test env)) (fun b s₂ =>
        if b = true then wpAny (model prog w) A (execs body env) (TokPost w' g L s lx dlx dsx c x R0 (x.length - i)) E s₂ else False) E { s with heap := h₁, toks := tk₁ })
    (hQ : ∀ s', TokBrk w' g L s lx dlx dsx c x R0 s' → Q .next s')
    (hE : PassesOwn (model prog w) A env E := by passes_own) :
    wpAny (model prog w) A (exec (.While test body [] pos) env) Q E s := by
  refine While_inv2 (TokJ w' lx dlx dsx c x R0) F N hJ ?_ hE
  rintro n m₁ news₁ h₁ tk₁ F₁ N₁ ⟨q, e, te, nc, i, st, tks, tok, tt, ln, tl, a, rfl, rfl, ok, rfl, hR⟩
  refine wpAny_mono (turn q e te nc i st tks tok tt ln tl a h₁ tk₁ F₁ N₁ ok hR) (fun b s₂ h₂ => ?_) fun _ _ e => e
  cases b with
  | false => simp at h₂
  | true =>
    simp only [if_true] at h₂ ⊢
    refine wpAny_mono h₂ (fun f s₃ h₃ => ?_) fun _ _ e => e
    cases f with
    | next =>
      obtain ⟨h', tk, q, e, te, nc, i, st, tks, tok, tt, ln, tl, a, rfl, F', N', ok', hlt, hR'⟩ := h₃
      exact ⟨h', tk, _, _, _, rfl, F', N', hlt, q, e, te, nc, i, st, tks, tok, tt, ln, tl, a, rfl, rfl, ok', rfl, hR'⟩
    | cont =>
      obtain ⟨h', tk, q, e, te, nc, i, st, tks, tok, tt, ln, tl, a, rfl, F', N', ok', hlt, hR'⟩ := h₃
      exact ⟨h', tk, _, _, _, rfl, F', N', hlt, q, e, te, nc, i, st, tks, tok, tt, ln, tl, a, rfl, rfl, ok', rfl, hR'⟩
    | brk => exact hQ _ h₃
    | ret v => exact h₃.elim
theorem tokBrkI {h' : Heap} {tk n : Nat} {m : Str → Option Value} {q : Bool} {e : Nat} {te : Tok} {i : Nat} {j : Int} {st : Option Nat} {tks : Tok} {sv : Value} {tok : Str} {tt : Tok} {ln : Int} {tl : Tok} {a : SioT}
    (F : Fr g L h' m) (N : News g L h' [(lx, instObj 739 dlx), (dlx, dictOf (lexE w c sv tok tt ln tl) 19), (c.sx, instObj 604 dsx), (dsx, dictOf (sioE w a x j) 3)])
    (hsv : sv = stV st tks) (hm : ∀ y, m y = tokM lx q e te (m (Str.ofString "nextchar")) y) (hj : j = i) (hi : i ≤ x.length) (ht : tok.length ≤ 2 * i) (hn : st = none → i = x.length) (hst : st = none ∨ st = some 32) (hR : .done st tok q (x.cps.toList.drop i) = R0) :
    TokPost w g L s lx dlx dsx c x R0 n .brk { s with heap := h', toks := tk } := by
  subst hsv
  subst hj
  exact ⟨h', tk, q, e, te, _, i, st, tks, tok, tt, ln, tl, a, rfl, frCongr F hm, N, hi, ht, hn, hst, hR.symm⟩
theorem tokGoI {h' : Heap} {tk n : Nat} {f : Flow} {m : Str → Option Value} {q : Bool} {e : Nat} {te : Tok} {i : Nat} {j : Int} {k : Nat} {tks : Tok} {sv : Value} {tok : Str} {tt : Tok} {ln : Int} {tl : Tok} {a : SioT}
    (F : Fr g L h' m) (N : News g L h' [(lx, instObj 739 dlx), (dlx, dictOf (lexE w c sv tok tt ln tl) 19), (c.sx, instObj 604 dsx), (dsx, dictOf (sioE w a x j) 3)])
    (hsv : sv = .str ⟨#[k]⟩ tks) (hm : ∀ y, m y = tokM lx q e te (m (Str.ofString "nextchar")) y) (hj : j = i) (ok : TokOk x i (some k) tok e) (hn : x.length - i < n) (hR : tokRun (x.cps.toList.drop i) k tok q e = R0) (hf : f = .next ∨ f = .cont) :
    TokPost w g L s lx dlx dsx c x R0 n f { s with heap := h', toks := tk } := by
  subst hsv
  subst hj
  rcases hf with rfl | rfl
  · exact ⟨h', tk, q, e, te, _, i, some k, tks, tok, tt, ln, tl, a, rfl, frCongr F hm, N, ok, hn, hR⟩
  · exact ⟨h', tk, q, e, te, _, i, some k, tks, tok, tt, ln, tl, a, rfl, frCongr F hm, N, ok, hn, hR⟩
def LnPost (w : World) (g : Heap) (L : Addr) (s : Shared) (m : Str → Option Value) (lx dlx : Addr) (c : LexC) (st : Value) (tok : Str) (tt : Tok) (rest : List (Addr × Obj)) (f : Flow) (s₂ : Shared) : Prop :=
  f = .next ∧ ∃ h' tk ln tl, s₂ = { s with heap := h', toks := tk } ∧ Fr g L h' m ∧ News g L h' (lexH w lx dlx c st tok tt ln tl ++ rest)
theorem lnI {m : Str → Option Value} {stv : Value} {tok : Str} {tt : Tok} {own : List (Addr × Obj)} {h' : Heap} {tk : Nat} {ln : Int} {tl : Tok} (F : Fr g L h' m) (N : News g L h' ((lx, instObj 739 dlx) :: (dlx, dictOf (lexE w c stv tok tt ln tl) 19) :: own)) :
    LnPost w g L s m lx dlx c stv tok tt own .next { s with heap := h', toks := tk } := ⟨rfl, h', tk, ln, tl, rfl, F, N⟩
theorem ln_mid {m : Str → Option Value} {stv : Value} {tok : Str} {tt : Tok} {own : List (Addr × Obj)} {st : Stmt} {rest : List Stmt}
    (h1 : wpAny (model prog w) A (exec st env) (LnPost w' g L s m lx dlx c stv tok tt own) E s)
    (h2 : ∀ h' tk ln tl, Fr g L h' m → News g L h' (lexH w' lx dlx c stv tok tt ln tl ++ own) → wpAny (model prog w) A (execs rest env) Q E { s with heap := h', toks := tk }) :
    wpAny (model prog w) A (execs (st :: rest) env) Q E s := by
  refine wpAny_execs_cons (wpAny_mono h1 (fun f s' hp => ?_) fun _ _ e => e)
  obtain ⟨rfl, h', tk, ln, tl, rfl, F', N'⟩ := hp
  exact h2 h' tk ln tl F' N'
end
end
section
open PySem PySem.W PySem.Calls PySem.Spec PyProof.Rows
set_option maxRecDepth 100000
set_option maxHeartbeats 0
def frs (l : List Env) : List Addr := l.filterMap (·.frame)
def FOk (l : List Env) (h : Heap) : Prop := ∀ env ∈ l, env.scope.kind ≠ .module ∧ ∃ L o, env.frame = some L ∧ h.get? L = some o ∧ ∀ vs, o.data ≠ .fields vs
def Flew (l : List Env) (ds : List Addr) (h : Heap) (e : Addr) (X : String) (h' : Heap) : Prop :=
  ∃ B a0, Heap.FlyingW B l e (.type X) a0 h' ∧ (∀ b o, h.get? b = some o → b ∉ ds → b ∉ frs l → B.get? b = some o) ∧ (∀ b o, h.get? b = some o → b ∈ frs l → ∃ sl, h'.get? b = some { o with slots := sl })
theorem FOk.mem {l : List Env} {h : Heap} (x : FOk l h) {b : Addr} (hb : b ∈ frs l) : ∃ o, h.get? b = some o ∧ ∀ vs, o.data ≠ .fields vs := by
  obtain ⟨env, he, hf⟩ := List.mem_filterMap.mp hb
  obtain ⟨_, L, o, hL, ho, hd⟩ := x env he
  rw [hL] at hf
  cases hf
  exact ⟨o, ho, hd⟩
theorem funOf {B h : Heap} : ∀ {l : List Env}, FOk l h → (∀ b ∈ frs l, B.get? b = none) → h.FunFrames B l
  | [], _, _ => trivial
  | env :: r, x, hB => by
    obtain ⟨hk, L, o, hL, ho, hd⟩ := x env (.head _)
    have hm : L ∈ frs (env :: r) := List.mem_filterMap.mpr ⟨env, .head _, hL⟩
    exact ⟨hk, ⟨L, o, hL, hB L hm, ho, hd⟩, funOf (fun e he => x e (.tail _ he)) fun b hb => hB b (by
      obtain ⟨e, he, hf⟩ := List.mem_filterMap.mp hb
      exact List.mem_filterMap.mpr ⟨e, .tail _ he, hf⟩)⟩
theorem FOk.but {l : List Env} {ds : List Addr} {h h' : Heap} (x : FOk l h) (hd : ∀ b ∈ frs l, b ∉ ds) (k : But ds h h') : FOk l h' := fun env he => by
  obtain ⟨hk, L, o, hL, ho, hn⟩ := x env he
  exact ⟨hk, L, o, hL, k L o ho (hd L (List.mem_filterMap.mpr ⟨env, he, hL⟩)), hn⟩
theorem FOk.cons {l : List Env} {h : Heap} {env : Env} {L : Addr} {m : Str → Option Value} (x : FOk l h) (hk : env.scope.kind = .function) (hf : env.frame = some L) (hn : h.Ns L m) : FOk (env :: l) h := fun e he => by
  cases he with
  | head =>
    obtain ⟨o, es, ep, ho, hd, _⟩ := hn
    exact ⟨by rw [hk]; decide, L, o, hf, ho, fun vs q => by rw [hd] at q; cases q⟩
  | tail _ he => exact x e he
section
variable {M : Model} {A : Around} {E : Value → Shared → Prop} {s' : Shared} {env : Env} {outer : List Env} {ds ds' : List Addr} {H g h : Heap} {L e : Addr} {m : Str → Option Value} {X : String} {Q : Unit → Shared → Prop}
theorem leaveNew {vs : List Value} (hA : A.frames = some outer) (fo : FOk outer H) (fd : ∀ b ∈ frs outer, b ∉ ds) (hk : ∀ b o, H.get? b = some o → b ∉ ds → g.get? b = some o) (hL : ∀ b o, H.get? b = some o → @LT.lt Nat _ b L)
    (F : Fr g L h m) (hf : env.frame = some L) (hek : env.scope.kind = .function) (hx : Heap.MadeExc h s'.heap e X vs)
    (hQ : ∀ h', Flew outer ds H e X h' → Q () { s' with heap := h' }) : wpAny M (A.deeper env) (leaving env (.ref e)) Q E s' := by
  have kH : But ds H h := fun b o e n => F.keep b o (hk b o e n)
  have fo5 : FOk (env :: outer) h := (fo.but fd kH).cons hek hf F.ns
  have eL : frs (env :: outer) = L :: frs outer := by simp [frs, hf]
  refine wpAny_leaves_madeW (base := hideAll h (ds ++ frs (env :: outer))) (Around.frames_deeper hA) hf (fun b o e => of_hideAll _ e) (funOf fo5 fun b hb => hideAll_none _ (List.mem_append_right _ hb)) hx.of fun h' t x1 x2 x3 x4 => ?_
  refine hQ h' ⟨_, _, x1, fun b o e n nf => hideAll_get _ (kH b o e n) fun q => ?_, fun b o e hb => ?_⟩
  · rcases List.mem_append.mp q with q | q
    · exact n q
    · rw [eL] at q
      rcases List.mem_cons.mp q with q | q
      · have := hL b o e
        rw [q] at this
        exact Nat.lt_irrefl _ this
      · exact nf q
  · obtain ⟨o', ho', hd⟩ := fo.mem hb
    rw [e] at ho'
    cases ho'
    exact x4 b o (hx.keeps b o (kH b o e (fd b hb))) hd
theorem leaveOn (hA : A.frames = some outer) (fo : FOk outer H) (fd : ∀ b ∈ frs outer, b ∉ ds) (hk : ∀ b o, H.get? b = some o → b ∉ ds → g.get? b = some o) (hL : ∀ b o, H.get? b = some o → @LT.lt Nat _ b L)
    (F : Fr g L h m) (hf : env.frame = some L) (hds : ∀ b ∈ ds', b ∈ ds ∨ H.get? b = none) (hx : Flew (env :: outer) ds' h e X s'.heap)
    (hQ : ∀ h', Flew outer ds H e X h' → Q () { s' with heap := h' }) : wpAny M (A.deeper env) (leaving env (.ref e)) Q E s' := by
  have kH : But ds H h := fun b o e n => F.keep b o (hk b o e n)
  have eL : frs (env :: outer) = L :: frs outer := by simp [frs, hf]
  obtain ⟨B, a0, fl, k1, k2⟩ := hx
  refine wpAny_leaves_onW (Around.frames_deeper hA) hf fl fun h' fl' us => hQ h' ⟨B, a0, fl', fun b o e n nf => k1 b o (kH b o e n) (fun q => ?_) fun q => ?_, fun b o e hb => ?_⟩
  · rcases hds b q with q | q
    · exact n q
    · rw [e] at q; cases q
  · rw [eL] at q
    rcases List.mem_cons.mp q with q | q
    · have := hL b o e
      rw [q] at this
      exact Nat.lt_irrefl _ this
    · exact nf q
  · obtain ⟨o', ho', hd⟩ := fo.mem hb
    rw [e] at ho'
    cases ho'
    obtain ⟨sl, h2⟩ := k2 b o (kH b o e (fd b hb)) (by rw [eL]; exact List.mem_cons_of_mem _ hb)
    obtain ⟨sl', h3⟩ := us b _ h2 hd
    exact ⟨sl', h3⟩
end
end
local macro_rules | `(tactic| walk_at "compareOp In str str") => `(tactic| first | (refine in1t (by decide +kernel) ?_) | (refine in1f (by decide +kernel) ?_) | (refine in1f nilS ?_) | (refine in1 ?_ ?_ <;> intro hIn))
local macro_rules | `(tactic| walk_at "compareOp NotIn str str") => `(tactic| (refine notIn1f nilS ?_))
local macro_rules | `(tactic| walk_at "m map") => `(tactic| (exact tokMap (by with_unfolding_all rfl) (by with_unfolding_all rfl) (by first | rfl | exact aE | exact dqS) (fun y h1 h2 h3 => by simp [tokM, h1, h2, h3])))
local macro_rules | `(tactic| walk_at "m pst") => `(tactic| ((fail_if_success (with_reducible show wpAny _ _ (getAttr (Value.ref _) (Str.ofString "punctuation_chars") _) _ _ _)); (walk_at "m step")))
local macro_rules | `(tactic| walk_at "truthy str") => `(tactic| first | (refine truthy1 ?_) | (refine truthyS (by omega) ?_ ?_ <;> intro hTk))
section
open PySem PySem.W PySem.Calls PySem.Spec PyProof.Rows
set_option maxRecDepth 100000
set_option maxHeartbeats 0
theorem look1 {α : Type} (k : Str) (v : α) (y : Str) : List.lookup y [(k, v)] = if y = k then some v else none := by
  by_cases h : y = k
  · subst h; simp
  · have : (y == k) = false := by simpa using h
    simp [List.lookup, this, h]
theorem tok_entry {g h : Heap} {L lx : Addr} {t : Tok} {b : Str → Option Value} (F : Fr g L h (fun y => if y = Str.ofString "escapedstate" then some (.str (Str.ofString " ") t) else if y = Str.ofString "quoted" then some (.bool false) else b y)) (hb : b = fun y => List.lookup y [(Str.ofString "self", .ref lx)]) : Fr g L h (tokM lx false 32 t none) := by
  refine frCongr F fun y => ?_
  subst hb
  by_cases h1 : y = Str.ofString "quoted"
  · subst h1; simp [ne_q_e]
  by_cases h2 : y = Str.ofString "escapedstate"
  · subst h2; simp [tokM, ne_q_e.symm, show Str.ofString " " = ⟨#[32]⟩ from by decide +kernel]
  by_cases h3 : y = Str.ofString "nextchar"
  · subst h3; simp [tokM, ne_q_n.symm, ne_e_n.symm, look1, ne_n_s]
  simp [tokM, h1, h2, h3, look1]
def resV (tok : Str) (q : Bool) (t : Tok) : Value := if tok = Str.ofString "" ∧ q = false then .none else .str tok t
theorem c_tok {w : World} {p : Program} {loose : List Str} {mg mb : Str → Option Value} {A : Around} {s : Shared} {Q E : Value → Shared → Prop} {lx dlx dsx : Addr} {c : LexC} {a : SioT} {st : Option Nat} {tks tt : Tok} {ln : Int} {tl : Tok} {x : Str} {i : Nat} {outer : List Env}
  (hh : A.handled = none) (hroom : A.depth + 30 < recursionLimit) (hun : A.units + 300 < cLine) (G : Gnd (Mine.kFrag w.params) p loose mg mb s.heap (lexH w lx dlx c (stV st tks) (Str.ofString "") tt ln tl ++ sioH w c.sx dsx a x i))
  (hne : @LT.lt Nat _ dlx lx) (hne2 : @LT.lt Nat _ lx dsx) (hne3 : @LT.lt Nat _ dsx c.sx) (hx : x.length ≤ 5000) (ok : TokOk x i st (Str.ofString "") 32)
  (hwc : ∀ k ∈ c.wc.cps.toList, k ∉ wsL ∧ k ≠ 39 ∧ k ≠ 34 ∧ k ≠ 92) (hA : A.frames = some outer) (fo : FOk outer s.heap) (fd : ∀ b ∈ frs outer, b ∉ [lx, dlx, c.sx, dsx])
  (hQ : ∀ st' tok q i', tokRunO (x.cps.toList.drop i) st (Str.ofString "") false 32 = .done st' tok q (x.cps.toList.drop i') → i' ≤ x.length → tok.length ≤ 2 * i' → (st' = none → i' = x.length) → (st' = none ∨ st' = some 32) →
    ∀ h' tk tks tt ln tl a t, But [lx, dlx, c.sx, dsx] s.heap h' → (∀ r ∈ lexH w lx dlx c (stV st' tks) (Str.ofString "") tt ln tl ++ sioH w c.sx dsx a x (i' : Nat), h'.get? r.1 = some r.2) → Q (resV tok q t) { s with heap := h', toks := tk })
  (hE : tokRunO (x.cps.toList.drop i) st (Str.ofString "") false 32 = .err → ∀ e h' tk, Flew outer [lx, dlx, c.sx, dsx] s.heap e "ValueError" h' → E (.ref e) { s with heap := h', toks := tk }) :
  wpAny (model (PySem.Challenge.rw_mj0255_01).prog w) A (call (.ref 707) [.ref lx]) Q E s := by
  revert G
  k_fill
  intro G
  refine wpAny_call ?_
  walk_at "m enterH"
  intro g L h₁ F N KX T hk hlt
  (try dsimp only)
  walk_at "m go"
  rename Fr _ _ _ _ => F1
  rename News _ _ _ _ => N1
  have F1' := tok_entry (lx := lx) F1 rfl
  refine tok_loop (w' := w) (lx := lx) (dlx := dlx) (dsx := dsx) (c := c) (x := x) (R0 := tokRunO (x.cps.toList.drop i) st (Str.ofString "") false 32) F1' N1 ⟨false, 32, _, none, i, st, tks, _, tt, ln, tl, a, rfl, rfl, ok, rfl, rfl⟩ ?_ ?_
  · intro q e te nc i' st' tks' tok' tt' ln' tl' a' h₂ tk₂ F2 N2 ok' hR
    clear F1 N1 F1'
    simp only [sioH, lexH, List.cons_append, List.nil_append] at N2
    (try dsimp only)
    repeat' (walk_at "m stop")
    walk_at "m punct"
    refine c_punct (p := p) (loose := loose) (mg := mg) (mb := mb) (c := c) (st := stV st' tks') (tok := tok') (tt := tt') (ln := ln') (tl := tl') hh ?_ ?_ (gndOf _ F2 N2 KX T (by intro q hq; rcases hq with _ | ⟨_, _ | ⟨_, hq⟩⟩; exact .head _; exact .tail _ (.head _); cases hq)) hne ?_
    · walk_at "m depth"
    · walk_at "m depth"
    intro s3 hk3
    obtain ⟨h3, tk3, rfl, hk3⟩ := hk3
    have F3 := F2.keeps hk3
    have N3 := News.grown N2 hk3
    clear F2 N2
    refine handed_on rfl ?_
    (try dsimp only)
    repeat' (walk_at "m stop")
    have G3 : Gnd (Mine.kFrag w.params) p loose mg mb h3 (sioH w c.sx dsx a' x i') := gndOf _ F3 N3 KX T (fun q hq => List.mem_cons_of_mem _ (List.mem_cons_of_mem _ hq))
    refine c_sread (p := p) (loose := loose) (mg := mg) (mb := mb) (a := a') (x := x) (i := i') hh ?_ ?_ G3 hne3 hx ok'.le ?_ ?_
    · walk_at "m depth"
    · walk_at "m depth"
    · intro hend t4 s4 hk4
      obtain ⟨h4, tk4, rfl, hk4⟩ := hk4
      have F4 := F3.keeps hk4
      have N4 := News.grown N3 hk4
      clear F3 N3 G3
      have hdrop : x.cps.toList.drop i' = [] := by rw [hend]; exact List.drop_length
      rw [hdrop] at hR
      (try dsimp only)
      repeat' (walk_at "m stop")
      cases st' with
      | none =>
        have e0 : stV none tks' = .none := rfl
        rename Fr _ _ _ _ => F5
        rename News _ _ _ _ => N5
        rw [e0] at N5
        walk_at "m go"
        (try dsimp only)
        rename Fr _ _ _ _ => F6
        rename News _ _ _ _ => N6
        refine tokBrkI (st := none) (tks := 0) (q := q) (e := e) (te := te) F6 N6 rfl ?_ rfl ok'.le (by rw [show (Str.ofString "").length = 0 from by decide +kernel]; omega) (fun _ => hend) (.inl rfl) (by rw [hdrop]; exact hR)
        walk_at "m map"
      | some k =>
        have e0 : stV (some k) tks' = .str ⟨#[k]⟩ tks' := rfl
        rename Fr _ _ _ _ => F5
        rename News _ _ _ _ => N5
        rw [e0] at N5
        have hraise : (k = 39 ∨ k = 34 ∨ k = 92) → TR.err = tokRunO (x.cps.toList.drop i) st (Str.ofString "") false 32 := fun hq => by
          rw [← hR]; show _ = tokRun [] k tok' q e; unfold tokRun; rw [if_pos hq]
        have hbrk : ¬ (k = 39 ∨ k = 34 ∨ k = 92) → TR.done none tok' q (x.cps.toList.drop i') = tokRunO (x.cps.toList.drop i) st (Str.ofString "") false 32 := fun hq => by
          rw [hdrop, ← hR]; show _ = tokRun [] k tok' q e; unfold tokRun; rw [if_neg hq]
        rcases ok'.st k rfl with rfl | rfl | rfl | rfl | ⟨rfl, he⟩
        · walk_at "m go"
          (try dsimp only)
          rename Fr _ _ _ _ => F6
          rename News _ _ _ _ => N6
          refine tokBrkI (st := none) (tks := 0) (q := q) (e := e) (te := te) F6 N6 rfl ?_ rfl ok'.le ok'.len (fun _ => hend) (.inl rfl) (hbrk (by decide))
          walk_at "m map"
        · walk_at "m go"
          (try dsimp only)
          rename Fr _ _ _ _ => F6
          rename News _ _ _ _ => N6
          refine tokBrkI (st := none) (tks := 0) (q := q) (e := e) (te := te) F6 (fun p hp => N6 p (.tail _ hp)) rfl ?_ rfl ok'.le ok'.len (fun _ => hend) (.inl rfl) (hbrk (by decide))
          walk_at "m map"
        all_goals walk_at "m go"
        all_goals rename Fr _ _ _ _ => F6
        all_goals rename News _ _ _ _ => N6
        all_goals refine Raise_madeB PySem.F.excCall_ValueError PySem.F.excRaise_ValueError hh ?_
        all_goals walk_at "m go"
        all_goals rename Fr _ _ _ _ => F7
        all_goals rename Heap.MadeExc _ _ _ _ _ => hx7
        all_goals exact leaveNew (ds := [lx, dlx, c.sx, dsx]) hA fo fd hk (fun b o e => (hlt b o e).2) F7 rfl rfl hx7 fun h' fl => hE (hraise (by decide)).symm _ _ _ fl
    · intro cc hcc h4 tk4 t4 a4 j hj hB h5 h6
      have F4 := frBut F3 N3 hB (by intro d hd; rcases hd with _ | ⟨_, _ | ⟨_, hd⟩⟩; exact .tail _ (.tail _ (.head _)); exact .tail _ (.tail _ (.tail _ (.head _))); cases hd)
      have N4 : News g L h4 [(lx, instObj 739 dlx), (dlx, dictOf (lexE w c (stV st' tks') tok' tt' ln' tl') 19), (c.sx, instObj 604 dsx), (dsx, dictOf (sioE w a4 x j) 3)] := by
        refine newsBut N3 hB ?_
        intro q hq
        rcases hq with _ | ⟨_, _ | ⟨_, _ | ⟨_, _ | ⟨_, hq⟩⟩⟩⟩
        · exact ⟨hB _ _ (N3.get (.head _)) (nm2 hne2 hne3), .head _⟩
        · exact ⟨hB _ _ (N3.get (.tail _ (.head _))) (nm2 (Nat.lt_trans hne hne2) hne3), .tail _ (.head _)⟩
        · exact ⟨h5, .tail _ (.tail _ (.head _))⟩
        · exact ⟨h6, .tail _ (.tail _ (.tail _ (.head _)))⟩
        · cases hq
      clear F3 N3 G3
      (try dsimp only)
      walk_at "m stop"
      walk_at "m stop"
      rename Fr _ _ _ _ => F5
      rename News _ _ _ _ => N5
      refine ln_mid (w' := w) (g := g) (L := L) (lx := lx) (dlx := dlx) (c := c) (stv := stV st' tks') (tok := tok') (tt := tt') (own := [(c.sx, instObj 604 dsx), (dsx, dictOf (sioE w a4 x j) 3)]) (m := fun y => if y = Str.ofString "nextchar" then some (.str ⟨#[cc]⟩ t4) else tokM lx q e te nc y) ?_ ?_
      · walk_at "m go"
        · exact lnI (by assumption) (by assumption)
        · exact lnI (by assumption) (by assumption)
      intro h7 tk7 ln7 tl7 F7 N7
      clear F5 N5
      simp only [lexH, List.cons_append, List.nil_append] at N7
      repeat' (walk_at "m stop")
      cases st' with
      | none =>
        exfalso
        have := ok'.none rfl
        have := (List.getElem?_eq_some_iff.mp hcc).1
        have hl : x.cps.toList.length = x.length := rfl
        omega
      | some k =>
      have e0 : stV (some k) tks' = .str ⟨#[k]⟩ tks' := rfl
      rename Fr _ _ _ _ => F8
      rename News _ _ _ _ => N8
      rw [e0] at N8
      have hi1 : i' < x.length := (List.getElem?_eq_some_iff.mp hcc).1
      have hdrop : x.cps.toList.drop i' = cc :: x.cps.toList.drop (i' + 1) := by
        rw [List.drop_eq_getElem_cons (show i' < x.cps.toList.length from hi1)]
        rw [List.getElem?_eq_getElem (show i' < x.cps.toList.length from hi1)] at hcc
        cases hcc
        rfl
      rw [hdrop] at hR
      change tokRun (cc :: _) k tok' q e = _ at hR
      have htl := ok'.len
      rcases ok'.st k rfl with rfl | rfl | rfl | rfl | ⟨rfl, he⟩
      · repeat' (first | (walk_at "m pst") | (walk_at "m punct"; (rename Fr _ _ _ _ => Fp); (rename News _ _ _ _ => Np); refine c_punct (p := p) (loose := loose) (mg := mg) (mb := mb) (c := c) hh (by walk_at "m depth") (by walk_at "m depth") (gndOf (lexH _ _ _ _ _ _ _ _ _) Fp Np KX T (by intro q hq; rcases hq with _ | ⟨_, _ | ⟨_, hq⟩⟩; k_mem; k_mem; cases hq)) hne ?_; (intro s3 hk3; obtain ⟨h3, tk3, rfl, hk3⟩ := hk3; have Fq := Fp.keeps hk3; have Nq := News.grown Np hk3; clear Fp Np; refine handed_on rfl ?_; (try dsimp only))))
        · (try dsimp only)
          rename Fr _ _ _ _ => F9
          rename News _ _ _ _ => N9
          rename (cc ∈ _) => hw
          rw [wsE] at hw
          rw [tr_ws (.inl rfl) hw (.inl (by assumption))] at hR
          refine tokBrkI (st := some 32) (e := e) (te := te) F9 N9 rfl ?_ hj hi1 (by omega) (fun h => by cases h) (.inr rfl) hR
          walk_at "m map"
        · (try dsimp only)
          rename Fr _ _ _ _ => F9
          rename News _ _ _ _ => N9
          rename (cc ∈ _) => hw
          rw [wsE] at hw
          rw [tr_ws (.inl rfl) hw (.inr (by assumption))] at hR
          refine tokBrkI (st := some 32) (e := e) (te := te) F9 N9 rfl ?_ hj hi1 (by omega) (fun h => by cases h) (.inr rfl) hR
          walk_at "m map"
        · (try dsimp only)
          rename Fr _ _ _ _ => F9
          rename News _ _ _ _ => N9
          rename (cc ∈ _) => hw
          rw [wsE] at hw
          rw [tr_ws0 (.inl rfl) hw (by assumption) (by assumption)] at hR
          refine tokGoI (e := e) (te := te) F9 N9 rfl ?_ hj (okNext hi1 (by omega) (by omega)) (by omega) hR (.inr rfl)
          walk_at "m map"
        · (try dsimp only)
          rename Fr _ _ _ _ => F9
          rename News _ _ _ _ => N9
          rename (cc ∈ _) => hw
          rw [esE, List.mem_singleton] at hw
          subst hw
          rw [tr_esc (.inl rfl) rfl] at hR
          refine' tokGoI (e := 97) F9 N9 rfl (tokMap (by with_unfolding_all rfl) (by with_unfolding_all rfl) aE (fun y h1 h2 h3 => by simp [tokM, h1, h2, h3])) hj (okNext hi1 (by omega) (by omega)) (by omega) hR (.inl rfl)
        · (try dsimp only)
          rename Fr _ _ _ _ => F9
          rename News _ _ _ _ => N9
          rename (cc ∈ _) => hw
          have hw' := hwc cc hw
          rw [tr_oth32 hw'.1 (by omega) hw'.2.2.2] at hR
          refine tokGoI (e := e) (te := te) F9 N9 (by rw [aE]) ?_ hj (okNext hi1 (by show 1 ≤ _; omega) (by omega)) (by omega) hR (.inl rfl)
          walk_at "m map"
        · (try dsimp only)
          rename Fr _ _ _ _ => F9
          rename News _ _ _ _ => N9
          rename (cc ∈ _) => hw
          rw [quE] at hw
          have hw' : cc = 39 ∨ cc = 34 := by simpa using hw
          rw [tr_quo (.inl rfl) hw'] at hR
          refine tokGoI (e := e) (te := te) F9 N9 rfl ?_ hj (okNext hi1 (by omega) (by omega)) (by omega) hR (.inl rfl)
          walk_at "m map"
        · (try dsimp only)
          rename Fr _ _ _ _ => F9
          rename News _ _ _ _ => N9
          rename (cc ∉ (Str.ofString "\\").cps.toList) => hw1
          rename (cc ∉ (Str.ofString "'\"").cps.toList) => hw2
          rename (cc ∉ (Str.ofString " \t\r\n").cps.toList) => hw3
          rw [esE, List.mem_singleton] at hw1
          rw [quE] at hw2
          rw [wsE] at hw3
          rw [tr_oth32 hw3 (by simpa using hw2) hw1] at hR
          refine tokGoI (e := e) (te := te) F9 N9 (by rw [aE]) ?_ hj (okNext hi1 (by show 1 ≤ _; omega) (by omega)) (by omega) hR (.inl rfl)
          walk_at "m map"
      · repeat' (first | (walk_at "m pst") | (walk_at "m punct"; (rename Fr _ _ _ _ => Fp); (rename News _ _ _ _ => Np); refine c_punct (p := p) (loose := loose) (mg := mg) (mb := mb) (c := c) hh (by walk_at "m depth") (by walk_at "m depth") (gndOf (lexH _ _ _ _ _ _ _ _ _) Fp Np KX T (by intro q hq; rcases hq with _ | ⟨_, _ | ⟨_, hq⟩⟩; k_mem; k_mem; cases hq)) hne ?_; (intro s3 hk3; obtain ⟨h3, tk3, rfl, hk3⟩ := hk3; have Fq := Fp.keeps hk3; have Nq := News.grown Np hk3; clear Fp Np; refine handed_on rfl ?_; (try dsimp only))))
        · (try dsimp only)
          rename Fr _ _ _ _ => F9
          rename News _ _ _ _ => N9
          rename (cc ∈ _) => hw
          rw [wsE] at hw
          rw [tr_ws (.inr rfl) hw (.inl (by assumption))] at hR
          refine tokBrkI (st := some 32) (e := e) (te := te) F9 (newsTl N9) (by rw [spE]; rfl) ?_ hj hi1 (by omega) (fun h => by cases h) (.inr rfl) hR
          walk_at "m map"
        · (try dsimp only)
          rename Fr _ _ _ _ => F9
          rename News _ _ _ _ => N9
          rename (cc ∈ _) => hw
          rw [wsE] at hw
          rw [tr_ws (.inr rfl) hw (.inr (by assumption))] at hR
          refine tokBrkI (st := some 32) (e := e) (te := te) F9 (newsTl N9) (by rw [spE]; rfl) ?_ hj hi1 (by omega) (fun h => by cases h) (.inr rfl) hR
          walk_at "m map"
        · (try dsimp only)
          rename Fr _ _ _ _ => F9
          rename News _ _ _ _ => N9
          rename (cc ∈ _) => hw
          rw [wsE] at hw
          rw [tr_ws0 (.inr rfl) hw (by assumption) (by assumption)] at hR
          refine tokGoI (e := e) (te := te) F9 (newsTl N9) (by rw [spE]) ?_ hj (okNext hi1 (by omega) (by omega)) (by omega) hR (.inr rfl)
          walk_at "m map"
        · (try dsimp only)
          rename Fr _ _ _ _ => F9
          rename News _ _ _ _ => N9
          rename (cc ∈ _) => hw
          rw [quE] at hw
          have hw' : cc = 39 ∨ cc = 34 := by simpa using hw
          rw [tr_quo (.inr rfl) hw'] at hR
          refine tokGoI (e := e) (te := te) F9 (newsTl N9) rfl ?_ hj (okNext hi1 (by omega) (by omega)) (by omega) hR (.inl rfl)
          walk_at "m map"
        · (try dsimp only)
          rename Fr _ _ _ _ => F9
          rename News _ _ _ _ => N9
          rename (cc ∈ _) => hw
          rw [esE, List.mem_singleton] at hw
          subst hw
          rw [tr_esc (.inr rfl) rfl] at hR
          refine' tokGoI (e := 97) F9 (newsTl N9) rfl (tokMap (by with_unfolding_all rfl) (by with_unfolding_all rfl) aE (fun y h1 h2 h3 => by simp [tokM, h1, h2, h3])) hj (okNext hi1 (by omega) (by omega)) (by omega) hR (.inl rfl)
        · (try dsimp only)
          rename Fr _ _ _ _ => F9
          rename News _ _ _ _ => N9
          rename (cc ∈ _) => hw
          have hw' := hwc cc hw
          rw [tr_oth97 hw'.1 (by omega) hw'.2.2.2] at hR
          refine tokGoI (e := e) (te := te) F9 (newsTl N9) rfl ?_ hj (okNext hi1 (by rw [lenApp1]; omega) (by omega)) (by omega) hR (.inl rfl)
          walk_at "m map"
        · exact absurd (by assumption : cc ∈ (Str.ofString "'\"").cps.toList) (by assumption)
        · (try dsimp only)
          rename Fr _ _ _ _ => F9
          rename News _ _ _ _ => N9
          rename (cc ∉ (Str.ofString "\\").cps.toList) => hw1
          rename (cc ∉ (Str.ofString "'\"").cps.toList) => hw2
          rename (cc ∉ (Str.ofString " \t\r\n").cps.toList) => hw3
          rw [esE, List.mem_singleton] at hw1
          rw [quE] at hw2
          rw [wsE] at hw3
          rw [tr_oth97 hw3 (by simpa using hw2) hw1] at hR
          refine tokGoI (e := e) (te := te) F9 (newsTl N9) rfl ?_ hj (okNext hi1 (by rw [lenApp1]; omega) (by omega)) (by omega) hR (.inl rfl)
          walk_at "m map"
      · repeat' (first | (walk_at "m pst") | (walk_at "m punct"; (rename Fr _ _ _ _ => Fp); (rename News _ _ _ _ => Np); refine c_punct (p := p) (loose := loose) (mg := mg) (mb := mb) (c := c) hh (by walk_at "m depth") (by walk_at "m depth") (gndOf (lexH _ _ _ _ _ _ _ _ _) Fp Np KX T (by intro q hq; rcases hq with _ | ⟨_, _ | ⟨_, hq⟩⟩; k_mem; k_mem; cases hq)) hne ?_; (intro s3 hk3; obtain ⟨h3, tk3, rfl, hk3⟩ := hk3; have Fq := Fp.keeps hk3; have Nq := News.grown Np hk3; clear Fp Np; refine handed_on rfl ?_; (try dsimp only))))
        · (try dsimp only)
          rename Fr _ _ _ _ => F9
          rename News _ _ _ _ => N9
          rename (_ = true) => hw
          rw [tr_qclose (by decide) (eq1 hw)] at hR
          refine tokGoI (e := e) (te := te) F9 N9 (by rw [aE]) ?_ hj (okNext hi1 (by omega) (by omega)) (by omega) hR (.inl rfl)
          walk_at "m map"
        · (try dsimp only)
          rename Fr _ _ _ _ => F9
          rename News _ _ _ _ => N9
          rename (_ = false) => hw
          rw [tr_qoth (by decide) (ne1 hw) (by omega)] at hR
          refine tokGoI (e := e) (te := te) F9 N9 rfl ?_ hj (okNext hi1 (by rw [lenApp1]; omega) (by omega)) (by omega) hR (.inl rfl)
          walk_at "m map"
        · (try dsimp only)
          rename Fr _ _ _ _ => F9
          rename News _ _ _ _ => N9
          rename (_ = false) => hw
          rw [tr_qoth (by decide) (ne1 hw) (by omega)] at hR
          refine tokGoI (e := e) (te := te) F9 N9 rfl ?_ hj (okNext hi1 (by rw [lenApp1]; omega) (by omega)) (by omega) hR (.inl rfl)
          walk_at "m map"
      · repeat' (first | (walk_at "m pst") | (walk_at "m punct"; (rename Fr _ _ _ _ => Fp); (rename News _ _ _ _ => Np); refine c_punct (p := p) (loose := loose) (mg := mg) (mb := mb) (c := c) hh (by walk_at "m depth") (by walk_at "m depth") (gndOf (lexH _ _ _ _ _ _ _ _ _) Fp Np KX T (by intro q hq; rcases hq with _ | ⟨_, _ | ⟨_, hq⟩⟩; k_mem; k_mem; cases hq)) hne ?_; (intro s3 hk3; obtain ⟨h3, tk3, rfl, hk3⟩ := hk3; have Fq := Fp.keeps hk3; have Nq := News.grown Np hk3; clear Fp Np; refine handed_on rfl ?_; (try dsimp only))))
        · (try dsimp only)
          rename Fr _ _ _ _ => F9
          rename News _ _ _ _ => N9
          rename (_ = true) => hw
          rw [tr_qclose (by decide) (eq1 hw)] at hR
          refine tokGoI (e := e) (te := te) F9 N9 (by rw [aE]) ?_ hj (okNext hi1 (by omega) (by omega)) (by omega) hR (.inl rfl)
          walk_at "m map"
        · (try dsimp only)
          rename Fr _ _ _ _ => F9
          rename News _ _ _ _ => N9
          rename (cc ∈ _) => hw
          rw [esE, List.mem_singleton] at hw
          subst hw
          rw [tr_qesc rfl] at hR
          refine' tokGoI (e := 34) F9 N9 rfl (tokMap (by with_unfolding_all rfl) (by with_unfolding_all rfl) rfl (fun y h1 h2 h3 => by simp [tokM, h1, h2, h3])) hj (okNext hi1 (by omega) (by omega)) (by omega) hR (.inl rfl)
        · (try dsimp only)
          rename Fr _ _ _ _ => F9
          rename News _ _ _ _ => N9
          rename (_ = false) => hw
          rename (cc ∉ _) => hw1
          rw [esE, List.mem_singleton] at hw1
          rw [tr_qoth (by decide) (ne1 hw) (by omega)] at hR
          refine tokGoI (e := e) (te := te) F9 N9 rfl ?_ hj (okNext hi1 (by rw [lenApp1]; omega) (by omega)) (by omega) hR (.inl rfl)
          walk_at "m map"
      · repeat' (first | (walk_at "m pst") | (walk_at "m punct"; (rename Fr _ _ _ _ => Fp); (rename News _ _ _ _ => Np); refine c_punct (p := p) (loose := loose) (mg := mg) (mb := mb) (c := c) hh (by walk_at "m depth") (by walk_at "m depth") (gndOf (lexH _ _ _ _ _ _ _ _ _) Fp Np KX T (by intro q hq; rcases hq with _ | ⟨_, _ | ⟨_, hq⟩⟩; k_mem; k_mem; cases hq)) hne ?_; (intro s3 hk3; obtain ⟨h3, tk3, rfl, hk3⟩ := hk3; have Fq := Fp.keeps hk3; have Nq := News.grown Np hk3; clear Fp Np; refine handed_on rfl ?_; (try dsimp only))))
        · (try dsimp only)
          rename Fr _ _ _ _ => F9
          rename News _ _ _ _ => N9
          rename (e ∈ _) => hw
          rw [quE] at hw
          have he1 : e = 34 := by have : e = 39 ∨ e = 34 := by simpa using hw
                                  omega
          have hc1 : cc ≠ 92 := nb1 (by assumption)
          have hc2 : cc ≠ e := nb1 (by assumption)
          rw [tr_e1 (by omega)] at hR
          refine tokGoI (e := e) (te := te) F9 N9 rfl ?_ hj (okNext hi1 (by rw [lenApp1, show Str.ofString "\\" = ⟨#[92]⟩ from by decide +kernel, lenApp1]; omega) (by omega)) (by omega) hR (.inl rfl)
          walk_at "m map"
        · (try dsimp only)
          rename Fr _ _ _ _ => F9
          rename News _ _ _ _ => N9
          rename (e ∈ _) => hw
          rw [quE] at hw
          have he1 : e = 34 := by have : e = 39 ∨ e = 34 := by simpa using hw
                                  omega
          have hc2 : cc = e := nb0 (by assumption)
          rw [tr_e0 (by omega)] at hR
          refine tokGoI (e := e) (te := te) F9 N9 rfl ?_ hj (okNext hi1 (by rw [lenApp1]; omega) (by omega)) (by omega) hR (.inl rfl)
          walk_at "m map"
        · (try dsimp only)
          rename Fr _ _ _ _ => F9
          rename News _ _ _ _ => N9
          have hc1 : cc = 92 := nb0 (by assumption)
          rw [tr_e0 (by omega)] at hR
          refine tokGoI (e := e) (te := te) F9 N9 rfl ?_ hj (okNext hi1 (by rw [lenApp1]; omega) (by omega)) (by omega) hR (.inl rfl)
          walk_at "m map"
        · (try dsimp only)
          rename Fr _ _ _ _ => F9
          rename News _ _ _ _ => N9
          rename (e ∉ _) => hw
          rw [quE] at hw
          have he1 : ¬ (e = 39 ∨ e = 34) := by simpa using hw
          rw [tr_e0 (by omega)] at hR
          refine tokGoI (e := e) (te := te) F9 N9 rfl ?_ hj (okNext hi1 (by rw [lenApp1]; omega) (by omega)) (by omega) hR (.inl rfl)
          walk_at "m map"
  · intro s' hb
    obtain ⟨h8, tk8, q, e, te, nc, i', st', tks', tok', tt', ln', tl', a', rfl, F8, N8, hi', htl, hn, hst, hR⟩ := hb
    clear F1 N1 F1'
    simp only [sioH, lexH, List.cons_append, List.nil_append] at N8
    have hsv : ∃ sv, stV st' tks' = sv := ⟨_, rfl⟩
    obtain ⟨sv, hsv⟩ := hsv
    rw [hsv] at N8
    (try dsimp only)
    walk_at "m go"
    · dsimp only
      rename Fr _ _ _ _ => F9
      rename News _ _ _ _ => N9
      rw [← hsv] at N9
      have e : resV tok' q tt' = .str tok' tt' := by unfold resV; simp [*]
      exact Eq.mp (congrArg (fun v => Q v _) e) (hQ st' tok' q i' hR hi' htl hn hst _ _ _ _ _ _ _ tt' (fun b o e n => F9.keep b o (hk b o e n)) (fun r hr => (N9 r hr).1))
    · dsimp only
      rename Fr _ _ _ _ => F9
      rename News _ _ _ _ => N9
      rw [← hsv] at N9
      rename ((tok' == _) = true) => ht
      have ht' : tok' = Str.ofString "" := by simpa using ht
      have e : resV tok' q tt' = .none := by unfold resV; rw [if_pos ⟨ht', by assumption⟩]
      exact Eq.mp (congrArg (fun v => Q v _) e) (hQ st' tok' q i' hR hi' htl hn hst _ _ _ _ _ _ _ tt' (fun b o e n => F9.keep b o (hk b o e n)) (fun r hr => (N9 r hr).1))
    · dsimp only
      rename Fr _ _ _ _ => F9
      rename News _ _ _ _ => N9
      rw [← hsv] at N9
      rename ((tok' == _) = false) => ht
      have ht' : tok' ≠ Str.ofString "" := by simpa using ht
      have e : resV tok' q tt' = .str tok' tt' := by unfold resV; rw [if_neg fun h => ht' h.1]
      exact Eq.mp (congrArg (fun v => Q v _) e) (hQ st' tok' q i' hR hi' htl hn hst _ _ _ _ _ _ _ tt' (fun b o e n => F9.keep b o (hk b o e n)) (fun r hr => (N9 r hr).1))
end
section
open PySem PySem.W PySem.Calls PyProof.Rows
set_option maxRecDepth 100000
set_option maxHeartbeats 4000000
abbrev dqO : Obj := { cls := .type "collections.deque", dict := none, data := .fields #[.none, rawInt 0] }
theorem dq_mro : mroOf (.type "collections.deque") = pure [.type "collections.deque", .type "object"] := by rw [mroOf_type]; kernel_rfl
theorem dq_lookNew : typeLookup (.type "collections.deque") "__new__" = pure (some (.builtin "collections.deque.__new__")) := by rw [typeLookup_type, builtinLookup_eq_fast]; kernel_rfl
theorem dq_sub : isSubtype (.type "collections.deque") (.type "collections.deque") = pure true := by rw [isSubtype_type]; kernel_rfl
theorem dq_init : Slot "collections.deque" "__init__" "collections.deque.__init__" := .of (owner := "collections.deque") (n := "__init__") (by rw [typeLookup_type, builtinLookup_eq_fast]; kernel_rfl) (by decide +kernel) (by decide +kernel) (by decide +kernel)
    (by first | exact .inl (by decide +kernel) | exact .inr (by decide +kernel)) (by rw [isSubtype_type]; kernel_rfl)
theorem dq_len : Slot "collections.deque" "__len__" "collections.deque.__len__" := .of (owner := "collections.deque") (n := "__len__") (by rw [typeLookup_type, builtinLookup_eq_fast]; kernel_rfl) (by decide +kernel) (by decide +kernel) (by decide +kernel)
    (by first | exact .inl (by decide +kernel) | exact .inr (by decide +kernel)) (by rw [isSubtype_type]; kernel_rfl)
theorem dq_noBool : typeLookup (.type "collections.deque") "__bool__" = pure none := by rw [typeLookup_type, builtinLookup_eq_fast]; kernel_rfl
theorem dq_entryInit : entryFor table "collections.deque.__init__" = some Builtin.«collections.deque.__init__» := by first | exact entryFor_of_fast (by kernel_rfl) | exact entryFor_of_tree (by kernel_rfl)
theorem dq_entryNew : entryFor table "collections.deque.__new__" = some Builtin.«collections.deque.__new__» := by first | exact entryFor_of_fast (by kernel_rfl) | exact entryFor_of_tree (by kernel_rfl)
theorem dq_entryLen : entryFor table "collections.deque.__len__" = some Builtin.«collections.deque.__len__» := by first | exact entryFor_of_fast (by kernel_rfl) | exact entryFor_of_tree (by kernel_rfl)
theorem dq_called : TypeCalled "collections.deque" "collections.deque.__new__" "collections.deque.__init__" :=
  ⟨by decide +kernel, by decide +kernel, ⟨_, _, dq_mro⟩, madeBy_type dq_mro dq_lookNew (by decide +kernel), by decide +kernel, dq_sub, dq_init⟩
theorem dq_typeCall : checkTypeCall "collections.deque" ⟨[], []⟩ = pure () := by kernel_rfl
theorem dq_newCall : checkBuiltinCall "collections.deque.__new__" ⟨[.type "collections.deque"], []⟩ = pure () := by kernel_rfl
theorem dq_plainNew : plainId "collections.deque.__new__" = true := by decide +kernel
end
section
open PySem PySem.W PySem.Calls PyProof.Rows
set_option maxRecDepth 100000
set_option maxHeartbeats 4000000
section
variable {prog : Program} {w : World} {A : Around} {E : Value → Shared → Prop} {s : Shared}
theorem dq_new {Q₁ : Value → Shared → Prop} (h : Q₁ (.ref s.heap.objs.size) { s with heap := s.heap.push dqO }) :
    codeAny (model prog w) A (.call (.builtin "collections.deque.__new__") ⟨[.type "collections.deque"], []⟩) (wants Q₁ E) s := by
  refine codeAny_of_tree ?_
  show wpAny _ A.in1 (do checkBuiltinCall "collections.deque.__new__" ⟨[.type "collections.deque"], []⟩; again (.builtin "collections.deque.__new__" ⟨[.type "collections.deque"], []⟩)) _ _ s
  refine wpAny_bind (wpAny_of_eq dq_newCall (wpAny_pure ⟨plainId_quiet dq_plainNew _, codeAny_builtin dq_entryNew ?_⟩))
  rw [Around.under_plainId dq_plainNew _]
  unfold Builtin.«collections.deque.__new__» Builtin.Deque.newArgs Builtin.Deque.new
  have hsub := dq_sub
  have hsub' : isSubtype (.type "collections.deque") (.type Builtin.Deque.ty) = pure true := dq_sub
  obtain ⟨hp, g, d, tk, os⟩ := s
  dsimp only
  wp_walk
  exact h
theorem dq_initOk {M : Model} {self : Value} {Q : Unit → Shared → Prop} (hT : s.TypeIs self "collections.deque") (hQ : Q () s) :
    wpAny M A (checkBuiltinCall "collections.deque.__init__" ⟨[self], []⟩) Q E s := dq_init.check M A E s self [] [] Q hT rfl hQ
theorem dq_callInit {a : Addr} {Q : Value → Shared → Prop} (ho : s.heap.get? a = some dqO) (h : ∀ h', h'.get? a = some dqO → (∀ b o, s.heap.get? b = some o → h'.get? b = some o) → Q .none { s with heap := h' }) :
    wpAny (model prog w) A (call (.builtin "collections.deque.__init__") [.ref a]) Q E s := by
  have hT : s.TypeIs (.ref a) "collections.deque" := (show ∃ o, s.heap.get? a = some o ∧ o.cls = .type "collections.deque" from ⟨_, ho, rfl⟩)
  refine wpAny_call_entry dq_init hT dq_entryInit ?_ rfl
  unfold Builtin.«collections.deque.__init__» Builtin.Deque.clear Builtin.Deque.items
  obtain ⟨hp, g, d, tk, os⟩ := s
  dsimp only
  wp_walk
  refine ⟨_, rfl, h _ ?_ ?_⟩
  · rw [Heap.get?_update_self _ ho rfl]; rfl
  · intro b o hb
    by_cases e : a = b
    · subst e
      have hb' : some dqO = some o := ho.symm.trans hb
      cases hb'
      rw [Heap.get?_update_self _ ho rfl]; rfl
    · rw [Heap.get?_update_other _ _ e]; exact hb
theorem dq_call {Q : Value → Shared → Prop} (h : ∀ D h', s.heap.get? D = none → h'.get? D = some dqO → (∀ b o, s.heap.get? b = some o → h'.get? b = some o) → (∀ b o, s.heap.get? b = some o → @LT.lt Nat _ b D) → Q (.ref D) { s with heap := h' }) :
    wpAny (model prog w) A (call (.type "collections.deque") []) Q E s := by
  obtain ⟨c, tl, hmro⟩ := dq_called.mro
  have hmade := dq_called.made
  have hsub := dq_called.sub
  refine wpAny_call (codeAny_of_tree ?_)
  show wpAny _ _ (callAny (.type "collections.deque") _) _ _ _
  refine wpAny_pure ⟨Code.quiet_builtin _ (by decide +kernel), codeAny_builtin F.entry_type_call ?_⟩
  rw [Around.under_plain (weight_type_call_type "collections.deque" [] []) rfl]
  have h1 := dq_called.notType
  have h2 := dq_called.canCreate
  have hct := dq_typeCall
  repeat (any_goals (first | assumption | wp_step))
  refine codeAny_mono (dq_new (E := E) (Q₁ := fun obj s₁ => obj = .ref s.heap.objs.size ∧ s₁ = { s with heap := s.heap.push dqO }) ⟨rfl, rfl⟩) fun r s₁ hr => ?_
  cases r with
  | error e => exact hr
  | ok fl =>
    cases fl with
    | ret obj =>
      obtain ⟨rfl, rfl⟩ := hr
      have hS : (s.heap.push dqO).get? s.heap.objs.size = some dqO := Heap.get?_push_size _ rfl
      have hT : Shared.TypeIs { s with heap := s.heap.push dqO } (.ref s.heap.objs.size) "collections.deque" := ⟨_, hS, rfl⟩
      refine wpAny_bind (wpAny_isInstance hT dq_sub ?_)
      wp_step
      refine wpAny_bind (wpAny_holding (wpAny_callSpecial?_slot hT dq_init (dq_callInit hS fun h' e1 e2 => ?_)))
      wp_walk
      refine h _ _ (Heap.get?_none_of_le (Nat.le_refl _)) e1 (fun b o e => e2 b o (Heap.get?_push_of_some _ e)) fun b o e => Heap.lt_size e
    | _ => exact hr.elim
theorem dq_truthy {a : Addr} {Q : Bool → Shared → Prop} (ho : s.heap.get? a = some dqO) (h : Q false { s with toks := s.toks + 1 + 1 }) : wpAny (model prog w) A (truthy (.ref a)) Q E s := by
  have hT : s.TypeIs (.ref a) "collections.deque" := (show ∃ o, s.heap.get? a = some o ∧ o.cls = .type "collections.deque" from ⟨_, ho, rfl⟩)
  have body : ∀ {Q : Value → Shared → Prop}, Q (.int 0 (s.toks + 1)) { s with toks := s.toks + 1 + 1 } → wpAny (model prog w) A.in1 (Builtin.«len» ⟨[.ref a], []⟩) (fun fin s' => ∃ r, fin = .done (.ret r) ∧ Q r s') E s := by
    intro Q h
    unfold Builtin.«len»
    refine wpAny_bind (m := oneArg "len" _) (wpAny_pure ?_)
    refine wpAny_bind (m := callSpecial? (.ref a) (Str.ofString "__len__")) (wpAny_callSpecial?_slot (name := Str.ofString "__len__") hT dq_len
      (wpAny_call_entry dq_len hT dq_entryLen ?_ rfl))
    unfold Builtin.«collections.deque.__len__» Builtin.Deque.size
    refine wpAny_bind (wpAny_pure ?_)
    refine wpAny_bind (wpAny_bind (wpAny_bind (wpAny_load ho ?_)))
    refine wpAny_pure (wpAny_pure (wpAny_bind (wpAny_mkInt (wpAny_pure ⟨_, rfl, ?_⟩))))
    refine wpAny_bind (wpAny_holding (wpAny_pure ?_))
    refine wpAny_bind (wpAny_letGo ?_)
    exact wpAny_bind (wpAny_mkInt (wpAny_pure ⟨_, rfl, h⟩))
  have key : wpAny (model prog w) A (runValue (.builtin "len" ⟨[.ref a], []⟩)) (fun r s' => r = .int 0 (s.toks + 1) ∧ Q false s') E s := by
    refine wpAny_runValue (codeAny_builtin entry_len ?_)
    rw [Around.under_plainId plain_len _]
    exact wpAny_mono (body (Q := fun r s' => r = .int 0 (s.toks + 1) ∧ Q false s') ⟨rfl, h⟩)
      (fun fin s' h' => by obtain ⟨r, rfl, hq⟩ := h'; exact hq) fun _ _ e => e
  unfold truthy
  first
    | refine wpAny_bind (wpAny_callSpecial?_none (name := Str.ofString "__bool__") hT dq_noBool ?_)
    | refine wpAny_bind (wpAny_pure (wpAny_bind (wpAny_callSpecial?_none (name := Str.ofString "__bool__") hT dq_noBool ?_)))
  first
    | refine wpAny_bind (wpAny_specialOf (name := Str.ofString "__len__") hT dq_len.lookup ?_)
    | refine wpAny_bind (wpAny_pure (wpAny_bind (wpAny_specialOf (name := Str.ofString "__len__") hT dq_len.lookup ?_)))
  first
    | exact wpAny_bind (wpAny_mono key (fun r s' h' => by obtain ⟨rfl, hq⟩ := h'; exact wpAny_pure hq) fun _ _ e => e)
    | exact wpAny_bind (wpAny_pure (wpAny_bind (wpAny_mono key (fun r s' h' => by obtain ⟨rfl, hq⟩ := h'; exact wpAny_pure hq) fun _ _ e => e)))
end
end
section
open PySem PySem.W PySem.Calls PySem.Spec PyProof.Rows
set_option maxRecDepth 100000
set_option maxHeartbeats 0

theorem fdCons {env : Env} {outer : List Env} {g h : Heap} {L : Addr} {news : List (Addr × Obj)} {ds : List Addr} (hf : env.frame = some L) (fd : ∀ b ∈ frs outer, b ∉ ds) (N : News g L h news) (hsub : ∀ d ∈ ds, d ∈ news.map (·.1)) : ∀ b ∈ frs (env :: outer), b ∉ ds := fun b hb hd => by
  have eL : frs (env :: outer) = L :: frs outer := by simp [frs, hf]
  rw [eL] at hb
  rcases List.mem_cons.mp hb with rfl | hb
  · obtain ⟨q, hq, e⟩ := List.mem_map.mp (hsub b hd)
    exact (N q hq).2.1 e
  · exact fd b hb hd
theorem c_get {w : World} {p : Program} {loose : List Str} {mg mb : Str → Option Value} {A : Around} {s : Shared} {Q E : Value → Shared → Prop} {lx dlx dsx : Addr} {c : LexC} {a : SioT} {st : Option Nat} {tks tt : Tok} {ln : Int} {tl : Tok} {x : Str} {i : Nat} {outer : List Env}
  (hh : A.handled = none) (hroom : A.depth + 40 < recursionLimit) (hun : A.units + 400 < cLine) (G : Gnd (Mine.kFrag w.params) p loose mg mb s.heap (lexH w lx dlx c (stV st tks) (Str.ofString "") tt ln tl ++ sioH w c.sx dsx a x i))
  (hne : @LT.lt Nat _ dlx lx) (hne2 : @LT.lt Nat _ lx dsx) (hne3 : @LT.lt Nat _ dsx c.sx) (hx : x.length ≤ 5000) (ok : TokOk x i st (Str.ofString "") 32)
  (hwc : ∀ k ∈ c.wc.cps.toList, k ∉ wsL ∧ k ≠ 39 ∧ k ≠ 34 ∧ k ≠ 92) (hA : A.frames = some outer) (fo : FOk outer s.heap) (fd : ∀ b ∈ frs outer, b ∉ [lx, dlx, c.sx, dsx])
  (hd1 : s.heap.get? c.dq1 = some dqO) (hd2 : s.heap.get? c.dq2 = some dqO) (hn1 : c.dq1 ∉ [lx, dlx, c.sx, dsx]) (hn2 : c.dq2 ∉ [lx, dlx, c.sx, dsx])
  (hQ : ∀ st' tok q i', tokRunO (x.cps.toList.drop i) st (Str.ofString "") false 32 = .done st' tok q (x.cps.toList.drop i') → i' ≤ x.length → tok.length ≤ 2 * i' → (st' = none → i' = x.length) → (st' = none ∨ st' = some 32) →
    ∀ h' tk tks tt ln tl a t, But [lx, dlx, c.sx, dsx] s.heap h' → (∀ r ∈ lexH w lx dlx c (stV st' tks) (Str.ofString "") tt ln tl ++ sioH w c.sx dsx a x (i' : Nat), h'.get? r.1 = some r.2) → Q (resV tok q t) { s with heap := h', toks := tk })
  (hE : tokRunO (x.cps.toList.drop i) st (Str.ofString "") false 32 = .err → ∀ e h' tk, Flew outer [lx, dlx, c.sx, dsx] s.heap e "ValueError" h' → E (.ref e) { s with heap := h', toks := tk }) :
  wpAny (model (PySem.Challenge.rw_mj0255_01).prog w) A (call (.ref 700) [.ref lx]) Q E s := by
  revert G
  k_fill
  intro G
  refine wpAny_call ?_
  walk_at "m enterH"
  intro g L h₁ F N KX T hk hlt
  have g1 := hk _ _ hd1 hn1
  have g2 := hk _ _ hd2 hn2
  simp only [lexH, sioH, List.cons_append, List.nil_append] at N
  (try dsimp only)
  walk_at "m gos"
  refine dq_truthy (F.keep _ _ g1) ?_
  (try dsimp only)
  walk_at "m gos"
  rename Fr _ _ _ _ => F1
  rename News _ _ _ _ => N1
  have G1 : Gnd (Mine.kFrag w.params) p loose mg mb _ (lexH w lx dlx c (stV st tks) (Str.ofString "") tt ln tl ++ sioH w c.sx dsx a x i) := gndOf _ F1 N1 KX T (fun q hq => hq)
  refine c_tok (p := p) (loose := loose) (mg := mg) (mb := mb) hh ?_ ?_ G1 hne hne2 hne3 hx ok hwc (Around.frames_deeper hA) (FOk.cons (fo.but fd (fun b o e n => F1.keep b o (hk b o e n))) (by rfl) (by rfl) F1.ns) (fdCons (by rfl) fd N1 (by simp)) ?_ ?_
  · walk_at "m depth"
  · walk_at "m depth"
  · intro st' tok q i' e1 e2 e3 e4 e5 h2 tk2 tks2 tt2 ln2 tl2 a2 t2 hB hat
    have F2 := frBut F1 N1 hB (by simp)
    have N2 : News g L h2 [(lx, instObj 739 dlx), (dlx, dictOf (lexE w c (stV st' tks2) (Str.ofString "") tt2 ln2 tl2) 19), (c.sx, instObj 604 dsx), (dsx, dictOf (sioE w a2 x i') 3)] := newsBut N1 hB fun q hq => ⟨hat q hq, by simp at hq ⊢; rcases hq with rfl | rfl | rfl | rfl <;> simp⟩
    clear F1 N1 G1
    (try dsimp only)
    by_cases hr : tok = Str.ofString "" ∧ q = false
    · have er : ∀ t, resV tok q t = .none := fun t => by unfold resV; rw [if_pos hr]
      rw [er]
      walk_at "m gos"
      walk1
      (try dsimp only)
      walk_at "m gos"
      rename Fr _ _ _ _ => F3
      refine dq_truthy (F3.keep _ _ g2) ?_
      (try dsimp only)
      walk_at "m gos"
      (try dsimp only)
      rename Fr _ _ _ _ => F9
      rename News _ _ _ _ => N9
      exact Eq.mp (congrArg (fun v => Q v _) (er t2)) (hQ st' tok q i' e1 e2 e3 e4 e5 _ _ _ _ _ _ _ t2 (fun b o e n => F9.keep b o (hk b o e n)) (fun r hr => (N9 r hr).1))
    · have er : ∀ t, resV tok q t = .str tok t := fun t => by unfold resV; rw [if_neg hr]
      rw [er]
      walk_at "m gos"
      walk1
      (try dsimp only)
      walk_at "m gos"
      (try dsimp only)
      rename Fr _ _ _ _ => F9
      rename News _ _ _ _ => N9
      exact Eq.mp (congrArg (fun v => Q v _) (er t2)) (hQ st' tok q i' e1 e2 e3 e4 e5 _ _ _ _ _ _ _ t2 (fun b o e n => F9.keep b o (hk b o e n)) (fun r hr => (N9 r hr).1))
  · intro e1 e h' tk fl
    exact leaveOn (ds := [lx, dlx, c.sx, dsx]) hA fo fd hk (fun b o e => (hlt b o e).2) F1 rfl (fun b hb => .inl hb) fl fun h' fl => hE e1 _ _ _ fl
end
section
open PySem PySem.W PySem.Calls PySem.Spec PyProof.Rows
set_option maxRecDepth 100000
set_option maxHeartbeats 0

theorem c_next {w : World} {p : Program} {loose : List Str} {mg mb : Str → Option Value} {A : Around} {s : Shared} {Q E : Value → Shared → Prop} {lx dlx dsx : Addr} {c : LexC} {a : SioT} {st : Option Nat} {tks tt : Tok} {ln : Int} {tl : Tok} {x : Str} {i : Nat} {outer : List Env}
  (hh : A.handled = none) (hroom : A.depth + 50 < recursionLimit) (hun : A.units + 500 < cLine) (G : Gnd (Mine.kFrag w.params) p loose mg mb s.heap (lexH w lx dlx c (stV st tks) (Str.ofString "") tt ln tl ++ sioH w c.sx dsx a x i))
  (hne : @LT.lt Nat _ dlx lx) (hne2 : @LT.lt Nat _ lx dsx) (hne3 : @LT.lt Nat _ dsx c.sx) (hx : x.length ≤ 5000) (ok : TokOk x i st (Str.ofString "") 32)
  (hwc : ∀ k ∈ c.wc.cps.toList, k ∉ wsL ∧ k ≠ 39 ∧ k ≠ 34 ∧ k ≠ 92) (hA : A.frames = some outer) (fo : FOk outer s.heap) (fd : ∀ b ∈ frs outer, b ∉ [lx, dlx, c.sx, dsx])
  (hd1 : s.heap.get? c.dq1 = some dqO) (hd2 : s.heap.get? c.dq2 = some dqO) (hn1 : c.dq1 ∉ [lx, dlx, c.sx, dsx]) (hn2 : c.dq2 ∉ [lx, dlx, c.sx, dsx])
  (hQ : ∀ st' tok q i', tokRunO (x.cps.toList.drop i) st (Str.ofString "") false 32 = .done st' tok q (x.cps.toList.drop i') → ¬ (tok = Str.ofString "" ∧ q = false) → i' ≤ x.length → tok.length ≤ 2 * i' → (st' = none → i' = x.length) → (st' = none ∨ st' = some 32) →
    ∀ h' tk tks tt ln tl a t, But [lx, dlx, c.sx, dsx] s.heap h' → (∀ r ∈ lexH w lx dlx c (stV st' tks) (Str.ofString "") tt ln tl ++ sioH w c.sx dsx a x (i' : Nat), h'.get? r.1 = some r.2) → Q (.str tok t) { s with heap := h', toks := tk })
  (hS : ∀ st' tok q r, tokRunO (x.cps.toList.drop i) st (Str.ofString "") false 32 = .done st' tok q r → tok = Str.ofString "" ∧ q = false → ∀ e h' tk, Flew outer [lx, dlx, c.sx, dsx] s.heap e "StopIteration" h' → E (.ref e) { s with heap := h', toks := tk })
  (hE : tokRunO (x.cps.toList.drop i) st (Str.ofString "") false 32 = .err → ∀ e h' tk, Flew outer [lx, dlx, c.sx, dsx] s.heap e "ValueError" h' → E (.ref e) { s with heap := h', toks := tk }) :
  wpAny (model (PySem.Challenge.rw_mj0255_01).prog w) A (call (.ref 736) [.ref lx]) Q E s := by
  revert G
  k_fill
  intro G
  refine wpAny_call ?_
  walk_at "m enterH"
  intro g L h₁ F N KX T hk hlt
  have g1 := hk _ _ hd1 hn1
  have g2 := hk _ _ hd2 hn2
  simp only [lexH, sioH, List.cons_append, List.nil_append] at N
  (try dsimp only)
  walk_at "m gos"
  rename Fr _ _ _ _ => F1
  rename News _ _ _ _ => N1
  have G1 : Gnd (Mine.kFrag w.params) p loose mg mb _ (lexH w lx dlx c (stV st tks) (Str.ofString "") tt ln tl ++ sioH w c.sx dsx a x i) := gndOf _ F1 N1 KX T (fun q hq => hq)
  refine c_get (p := p) (loose := loose) (mg := mg) (mb := mb) hh ?_ ?_ G1 hne hne2 hne3 hx ok hwc (Around.frames_deeper hA) (FOk.cons (fo.but fd (fun b o e n => F1.keep b o (hk b o e n))) (by rfl) (by rfl) F1.ns) (fdCons (by rfl) fd N1 (by simp)) (F1.keep _ _ g1) (F1.keep _ _ g2) hn1 hn2 ?_ ?_
  · walk_at "m depth"
  · walk_at "m depth"
  · intro st' tok q i' e1 e2 e3 e4 e5 h2 tk2 tks2 tt2 ln2 tl2 a2 t2 hB hat
    have F2 := frBut F1 N1 hB (by simp)
    have N2 : News g L h2 [(lx, instObj 739 dlx), (dlx, dictOf (lexE w c (stV st' tks2) (Str.ofString "") tt2 ln2 tl2) 19), (c.sx, instObj 604 dsx), (dsx, dictOf (sioE w a2 x i') 3)] := newsBut N1 hB fun q hq => ⟨hat q hq, by simp at hq ⊢; rcases hq with rfl | rfl | rfl | rfl <;> simp⟩
    clear F1 N1 G1
    (try dsimp only)
    by_cases hr : tok = Str.ofString "" ∧ q = false
    · have er : ∀ t, resV tok q t = .none := fun t => by unfold resV; rw [if_pos hr]
      rw [er]
      walk_at "m gos"
      rename Fr _ _ _ _ => F7
      k_dflt (refine' owsi_raiseC ?hh ?hx ?_; (case hh => exact hh); (case hx => (refine' name_B F7 ?k1 ?k2 ?k3 ?k4 ?k5 ?_; (case k1 => k_asm); (case k2 => k_asm); (case k3 => k_is); (case k4 => boot_by_name); (case k5 => decide); exact ⟨rfl, rfl⟩)))
      intro h7 e7 hx7
      (try dsimp only)
      exact leaveNew (ds := [lx, dlx, c.sx, dsx]) hA fo fd hk (fun b o e => (hlt b o e).2) F7 rfl rfl hx7 fun h' fl => hS _ _ _ _ e1 hr _ _ _ fl
    · have er : ∀ t, resV tok q t = .str tok t := fun t => by unfold resV; rw [if_neg hr]
      rw [er]
      walk_at "m gos"
      (try dsimp only)
      rename Fr _ _ _ _ => F9
      rename News _ _ _ _ => N9
      exact hQ st' tok q i' e1 hr e2 e3 e4 e5 _ _ _ _ _ _ _ t2 (fun b o e n => F9.keep b o (hk b o e n)) (fun r hr => (N9 r hr).1)
  · intro e1 e h' tk fl
    exact leaveOn (ds := [lx, dlx, c.sx, dsx]) hA fo fd hk (fun b o e => (hlt b o e).2) F1 rfl (fun b hb => .inl hb) fl fun h' fl => hE e1 _ _ _ fl
end
section
open PySem PySem.W PySem.Calls PySem.Spec PyProof.Rows
set_option maxRecDepth 100000
set_option maxHeartbeats 0
def Went (l : List Env) (ds : List Addr) (h h' : Heap) : Prop :=
  (∀ b o, h.get? b = some o → b ∉ ds → b ∉ frs l → h'.get? b = some o) ∧ (∀ b o, h.get? b = some o → b ∈ frs l → ∃ sl, h'.get? b = some { o with slots := sl })
theorem Flew.went {l : List Env} {ds : List Addr} {h h' : Heap} {e : Addr} {X : String} (x : Flew l ds h e X h') : Went l ds h h' := by
  obtain ⟨B, a0, fl, k1, k2⟩ := x
  exact ⟨fun b o e n nf => fl.1 _ _ (k1 b o e n nf), k2⟩
theorem Flew.isA {l : List Env} {ds : List Addr} {h : Heap} {s : Shared} {e : Addr} {X : String} (x : Flew l ds h e X s.heap) : s.TypeIs (.ref e) X := by
  obtain ⟨B, a0, fl, _⟩ := x
  obtain ⟨ob, ho, hc⟩ := fl.there
  exact (show ∃ o, s.heap.get? e = some o ∧ o.cls = .type X from ⟨ob, ho, hc⟩)
theorem Flew.pre {l : List Env} {ds ds' : List Addr} {h g h' : Heap} {e : Addr} {X : String} (x : Flew l ds g e X h') (k : But ds' h g) (hs : ∀ d ∈ ds, d ∈ ds' ∨ h.get? d = none) (fd : ∀ b ∈ frs l, b ∉ ds') : Flew l ds' h e X h' := by
  obtain ⟨B, a0, fl, k1, k2⟩ := x
  exact ⟨B, a0, fl, fun b o e n nf => k1 b o (k b o e n) (fun q => (hs b q).elim n fun q => by rw [e] at q; cases q) nf, fun b o e hb => k2 b o (k b o e (fd b hb)) hb⟩
theorem Went.pre {l : List Env} {ds ds' : List Addr} {h g h' : Heap} (x : Went l ds g h') (k : But ds' h g) (hs : ∀ d ∈ ds, d ∈ ds' ∨ h.get? d = none) (fd : ∀ b ∈ frs l, b ∉ ds') : Went l ds' h h' :=
  ⟨fun b o e n nf => x.1 b o (k b o e n) (fun q => (hs b q).elim n fun q => by rw [e] at q; cases q) nf, fun b o e hb => x.2 b o (k b o e (fd b hb)) hb⟩
theorem FOk.went {l : List Env} {ds : List Addr} {h h' : Heap} (x : FOk l h) (W : Went l ds h h') : FOk l h' := fun env he => by
  obtain ⟨hk, L, o, hL, ho, hn⟩ := x env he
  obtain ⟨sl, h2⟩ := W.2 L o ho (List.mem_filterMap.mpr ⟨env, he, hL⟩)
  exact ⟨hk, L, _, hL, h2, hn⟩
theorem Gnd.but {K : Frag} {p : Program} {loose : List Str} {mg mb : Str → Option Value} {h h' : Heap} {hs hs' : List (Addr × Obj)} (G : Gnd K p loose mg mb h hs) (B : But (hs.map (·.1)) h h') (e : hs'.map (·.1) = hs.map (·.1)) (ha : ∀ q ∈ hs', h'.get? q.1 = some q.2) : Gnd K p loose mg mb h' hs' := by
  have k : ∀ b o, (hideAll h (hs.map (·.1))).get? b = some o → (hideAll h' (hs'.map (·.1))).get? b = some o := fun b o q => by
    have hn : b ∉ hs.map (·.1) := fun hm => by rw [hideAll_none _ hm] at q; cases q
    rw [e]
    exact hideAll_get _ (B b o (of_hideAll _ q) hn) hn
  exact ⟨G.kin.keeps k, G.top.keeps k, ha⟩
theorem Gnd.less {K : Frag} {p : Program} {loose : List Str} {mg mb : Str → Option Value} {h : Heap} {hs hs' : List (Addr × Obj)} (G : Gnd K p loose mg mb h hs) (hsub : ∀ q ∈ hs', q ∈ hs) : Gnd K p loose mg mb h hs' := by
  have k : ∀ b o, (hideAll h (hs.map (·.1))).get? b = some o → (hideAll h (hs'.map (·.1))).get? b = some o := fun b o q => by
    have hn : b ∉ hs.map (·.1) := fun hm => by rw [hideAll_none _ hm] at q; cases q
    exact hideAll_get _ (of_hideAll _ q) fun hm => by
      obtain ⟨r, hr, rfl⟩ := List.mem_map.mp hm
      exact hn (List.mem_map_of_mem (hsub r hr))
  exact ⟨G.kin.keeps k, G.top.keeps k, fun q hq => G.at_ q (hsub q hq)⟩
section
variable {M : Model} {A : Around} {E : Value → Shared → Prop} {s : Shared} {K : Frag} {x C f : Addr} {ox : Obj} {od : Option Obj}
theorem next_K {Q : Option Value → Shared → Prop} (X : K.In s.heap) (I : InstAt s.heap x ox C od) (hs : findIn K (.ref C) "__next__" = some (some (.ref f))) (hf : isFn K (.ref f) = true)
    (h : wpAny M A (call (.ref f) [.ref x]) (fun v s' => Q (some v) s') (OwitStop M A Q E) s) : wpAny M A (pyNext (.ref x)) Q E s := by
  unfold pyNext
  refine wpAny_bind (wpAny_attempt (special_fn (name := "__next__") (args := []) X I hs (beq_iff_eq.mp hf) (wpAny_mono h (fun v s' hq => ?_) (fun e s' he => ?_))))
  · exact wpAny_pure hq
  · refine wpAny_bind (wpAny_mono he (fun b s₂ hb => ?_) fun _ _ z => z)
    cases b with
    | true => exact wpAny_pure hb
    | false => exact wpAny_throw hb
theorem iter_K {Q : Value → Shared → Prop} {g : Value} (X : K.In s.heap) (I : InstAt s.heap x ox C od) (hs : findIn K (.ref C) "__iter__" = some (some (.ref f))) (hf : isFn K (.ref f) = true) (hs2 : findIn K (.ref C) "__next__" = some (some g))
    (h : wpAny M A (call (.ref f) [.ref x]) (fun v s' => v = .ref x ∧ (∀ b o, s.heap.get? b = some o → s'.heap.get? b = some o) ∧ Q v s') E s) : wpAny M A (pyIter (.ref x)) Q E s := by
  have fin : wpAny M A (call (.ref f) [.ref x] >>= fun v => pure (some v)) (fun r s' => r = some (.ref x) ∧ (∀ b o, s.heap.get? b = some o → s'.heap.get? b = some o) ∧ Q (.ref x) s') E s :=
    wpAny_bind (wpAny_mono h (fun v s' h' => wpAny_pure ⟨congrArg some h'.1, h'.2.1, h'.1 ▸ h'.2.2⟩) fun _ _ z => z)
  have one : ∀ refuse : Sem Value, wpAny M A (callSpecialIfBoundUnlessNone? (.ref x) "__iter__" refuse) (fun r s' => r = some (.ref x) ∧ (∀ b o, s.heap.get? b = some o → s'.heap.get? b = some o) ∧ Q (.ref x) s') E s := by
    intro refuse
    simp only [callSpecialIfBoundUnlessNone?, bindSpecialIfBound?]
    refine wpAny_holding (wpAny_bind (wpAny_bind (wpAny_bind (I.type.here ((looks_findIn X hs).here ?_)))))
    refine wpAny_bind (wpAny_askSetting (wpAny_ite ?_))
    have fin2 : wpAny M A (if (Value.ref f == Value.none) = true then (refuse >>= fun v => pure (some v)) else (call (.ref f) [.ref x] >>= fun v => pure (some v))) (fun r s' => r = some (.ref x) ∧ (∀ b o, s.heap.get? b = some o → s'.heap.get? b = some o) ∧ Q (.ref x) s') E s := by
      rw [if_neg (show ¬ ((Value.ref f == Value.none) = true) from Bool.false_ne_true)]
      exact fin
    split
    · exact wpAny_bind ((bind_fn X _ (beq_iff_eq.mp hf)).here (wpAny_pure (by exact fin2)))
    · exact wpAny_tryCatch (wpAny_bind ((bind_fn X _ (beq_iff_eq.mp hf)).here (wpAny_pure (by exact fin2))))
  unfold pyIter
  refine wpAny_bind (wpAny_bind (I.type.here ((looks_findIn X hs).here ?_)))
  show wpAny M A (callSpecialIfBoundUnlessNone? (.ref x) "__iter__" _ >>= _) Q E s
  refine wpAny_bind (wpAny_mono (one _) (fun r s' hr => ?_) fun _ _ z => z)
  obtain ⟨rfl, hk, hq⟩ := hr
  have I' : InstAt s'.heap x ox C od := by
    refine ⟨hk _ _ I.at_, I.cls, I.no, ?_⟩
    have := I.dict
    split at this
    · exact hk _ _ this
    · trivial
    · exact this.elim
  exact wpAny_bind (wpAny_bind (I'.type.here ((looks_findIn (X.keeps hk) hs2).here (wpAny_pure hq))))
theorem subV_S : isSubtype (.type "ValueError") (.type "StopIteration") = pure false := by rw [isSubtype_type]; kernel_rfl
theorem subS_S : isSubtype (.type "StopIteration") (.type "StopIteration") = pure true := by rw [isSubtype_type]; kernel_rfl
theorem stopS {Q : Option Value → Shared → Prop} {e : Addr} (hT : s.TypeIs (.ref e) "StopIteration") (h : Q none s) : OwitStop M A Q E (.ref e) s := by
  unfold OwitStop
  refine wpAny_isInstance hT subS_S ?_
  rw [if_pos rfl]
  exact h
theorem stopV {Q : Option Value → Shared → Prop} {e : Addr} (hT : s.TypeIs (.ref e) "ValueError") (h : E (.ref e) s) : OwitStop M A Q E (.ref e) s := by
  unfold OwitStop
  refine wpAny_isInstance hT subV_S ?_
  rw [if_neg (by decide)]
  exact h
end
end
section
open PySem PySem.W PySem.Calls PySem.Spec PyProof.Rows
set_option maxRecDepth 100000
set_option maxHeartbeats 0

abbrev dsL (lx dlx : Addr) (c : LexC) (dsx : Addr) : List Addr := [lx, dlx, c.sx, dsx]
theorem toldN_succ (n : Nat) (l : List Nat) (st : Option Nat) : toldN (n + 1) l st = (match tokRunO l st (Str.ofString "") false 32 with
    | .err => none
    | .done st' tok q r => if tok = Str.ofString "" ∧ q = false then some [] else (toldN n r st').map (tok :: ·)) := rfl
theorem strsAre_snoc' {vs : List Value} {us : List Str} {x : Str} {t : Tok} (h : StrsAre vs us) : StrsAre (vs ++ [.str x t]) (us ++ [x]) := by
  induction h with
  | nil => exact .cons x t .nil
  | cons y u _ ih => exact .cons y u ih
def muT (x : Str) (st : Option Nat) (i : Nat) : Nat := match st with | none => 0 | some _ => x.length - i + 1
theorem tokRun_drop : ∀ (l : List Nat) (k : Nat) (tok : Str) (q : Bool) (e : Nat) {st' : Option Nat} {tok' : Str} {q' : Bool} {r : List Nat}, tokRun l k tok q e = .done st' tok' q' r → st' = none ∨ r.length < l.length
  | [], k, tok, q, e, st', tok', q', r, h => by
    unfold tokRun at h
    split at h
    · cases h
    · cases h; exact .inl rfl
  | c :: l, k, tok, q, e, st', tok', q', r, h => by
    have ih := fun k tok q e (h : tokRun l k tok q e = .done st' tok' q' r) => (tokRun_drop l k tok q e h).imp id (fun h => Nat.lt_succ_of_lt h : r.length < l.length → r.length < (c :: l).length)
    rw [tokRun] at h
    split at h
    · split at h
      · exact ih _ _ _ _ h
      · split at h
        · exact ih _ _ _ _ h
        · exact ih _ _ _ _ h
    · split at h
      · exact ih _ _ _ _ h
      · split at h
        · split at h
          · cases h; exact .inr (Nat.lt_succ_self _)
          · exact ih _ _ _ _ h
        · split at h
          · exact ih _ _ _ _ h
          · split at h
            · exact ih _ _ _ _ h
            · exact ih _ _ _ _ h
theorem mu_less {x : Str} {i i' : Nat} {st st' : Option Nat} {tok : Str} {q : Bool} (h : tokRunO (x.cps.toList.drop i) st (Str.ofString "") false 32 = .done st' tok q (x.cps.toList.drop i')) (hi : i ≤ x.length) (hi' : i' ≤ x.length) (hn : ¬ (tok = Str.ofString "" ∧ q = false)) : muT x st' i' < muT x st i := by
  cases st with
  | none =>
    simp only [tokRunO, TR.done.injEq] at h
    exact absurd ⟨h.2.1.symm, h.2.2.1.symm⟩ hn
  | some k =>
    have hl : x.cps.toList.length = x.length := rfl
    rcases tokRun_drop _ _ _ _ _ h with rfl | hlt
    · simp [muT]
    · rw [List.length_drop, List.length_drop, hl] at hlt
      cases st' with
      | none => simp [muT]
      | some k' => simp only [muT]; omega
theorem fd4 {outer : List Env} {lx dlx dsx S : Addr} {c : LexC} (fd : ∀ b ∈ frs outer, b ∉ [S, lx, dlx, c.sx, dsx]) : ∀ b ∈ frs outer, b ∉ [lx, dlx, c.sx, dsx] := fun b hb q => fd b hb (.tail _ q)
theorem c_loop {w : World} {p : Program} {loose : List Str} {mg mb : Str → Option Value} {A : Around} {R : Result → Shared → Prop} {res : Value} {lx dlx dsx S : Addr} {c : LexC} {x : Str} {outer : List Env}
  (hh : A.handled = none) (hroom : A.depth + 60 < recursionLimit) (hun : A.units + 600 < cLine)
  (hne : @LT.lt Nat _ dlx lx) (hne2 : @LT.lt Nat _ lx dsx) (hne3 : @LT.lt Nat _ dsx c.sx) (hx : x.length ≤ 5000)
  (hwc : ∀ k ∈ c.wc.cps.toList, k ∉ wsL ∧ k ≠ 39 ∧ k ≠ 34 ∧ k ≠ 92) (hA : A.frames = some outer) (fd : ∀ b ∈ frs outer, b ∉ [S, lx, dlx, c.sx, dsx])
  (hn1 : c.dq1 ∉ [S, lx, dlx, c.sx, dsx]) (hn2 : c.dq2 ∉ [S, lx, dlx, c.sx, dsx]) (hS : S ∉ [lx, dlx, c.sx, dsx])
  (hf : findIn (Mine.kFrag w.params) (.ref 739) "__next__" = some (some (.ref 736))) (hf2 : isFn (Mine.kFrag w.params) (.ref 736) = true) :
  ∀ (n : Nat) (s : Shared) (acc : List Value) (us : List Str) (k : Nat) (i : Nat) (st : Option Nat) (tks tt : Tok) (ln : Int) (tl : Tok) (a : SioT), 
    Gnd (Mine.kFrag w.params) p loose mg mb s.heap ((S, listOf acc.toArray k) :: (lexH w lx dlx c (stV st tks) (Str.ofString "") tt ln tl ++ sioH w c.sx dsx a x i)) →
    TokOk x i st (Str.ofString "") 32 → FOk outer s.heap → s.heap.get? c.dq1 = some dqO → s.heap.get? c.dq2 = some dqO → StrsAre acc us → muT x st i < n → acc.length + muT x st i ≤ 5002 →
    (∀ ts h' tk acc' k', toldN n (x.cps.toList.drop i) st = some ts → Went outer [S, lx, dlx, c.sx, dsx] s.heap h' → h'.get? S = some (listOf (List.toArray acc') k') → StrsAre acc' (us ++ ts) → R (.ok (.ret res)) { s with heap := h', toks := tk }) →
    (toldN n (x.cps.toList.drop i) st = none → ∀ e h' tk, Flew outer [S, lx, dlx, c.sx, dsx] s.heap e "ValueError" h' → R (.error (.ref e)) { s with heap := h', toks := tk }) →
    codeAny (model (PySem.Challenge.rw_mj0255_01).prog w) A (.builtin "list.extend.loop" ⟨[.ref S, .ref lx, res], []⟩) R s := by
  intro n
  induction n with
  | zero => intro s acc us k i st tks tt ln tl a _ _ _ _ _ _ hm; exact absurd hm (Nat.not_lt_zero _)
  | succ n ih =>
    intro s acc us k i st tks tt ln tl a G ok fo hd1 hd2 hus hm hsz hR hE
    have fd' := fd4 fd
    refine codeAny_builtin PySem.F.entry_extend_loop ?_
    rw [Around.under_plainId PySem.F.plain_extend_loop _]
    show wpAny _ A.in1 (pyNext (.ref lx) >>= _) _ _ s
    have hSget : s.heap.get? S = some (listOf acc.toArray k) := G.at_ _ (.head _)
    have G' := G.less (hs' := lexH w lx dlx c (stV st tks) (Str.ofString "") tt ln tl ++ sioH w c.sx dsx a x i) (fun q hq => .tail _ hq)
    have I : InstAt s.heap lx (instObj 739 dlx) 739 (some (dictOf (lexE w c (stV st tks) (Str.ofString "") tt ln tl) 19)) := ⟨G.at_ _ (.tail _ (.head _)), rfl, rfl, G.at_ _ (.tail _ (.tail _ (.head _)))⟩
    refine wpAny_bind (next_K G.kin' I hf hf2 ?_)
    refine c_next (p := p) (loose := loose) (mg := mg) (mb := mb) (outer := outer) hh ?_ ?_ G' hne hne2 hne3 hx ok hwc hA fo fd' hd1 hd2 (fun q => hn1 (.tail _ q)) (fun q => hn2 (.tail _ q)) ?_ ?_ ?_
    · walk_at "m depth"
    · walk_at "m depth"
    · intro st' tok q i' e1 hr e2 e3 e4 e5 h2 tk2 tks2 tt2 ln2 tl2 a2 t2 hB hat
      have hS2 : h2.get? S = some (listOf acc.toArray k) := hB _ _ hSget hS
      have hmu := mu_less e1 ok.le e2 hr
      show wpAny _ A.in1 (updateSeq S (·.push (.str tok t2)) >>= _) _ _ _
      refine wpAny_bind (wpAny_updateSeq hS2 rfl (wpAny_pure ⟨plainId_quiet PySem.F.plain_extend_loop _, ?_⟩) (by rw [sizeLine_eq]; show acc.toArray.size ≤ _; rw [List.size_toArray]; omega) (by rw [sizeLine_eq]; show (acc.toArray.push _).size ≤ _; rw [Array.size_push, List.size_toArray]; omega))
      have hS3 := Heap.get?_update_self (Obj.mapSeq (·.push (.str tok t2))) hS2 rfl
      have hS4 : ∃ k', (h2.update S (Obj.mapSeq (·.push (.str tok t2)))).get? S = some (listOf (acc ++ [Value.str tok t2]).toArray k') := by
        rw [hS3, ← List.push_toArray]
        exact ⟨_, rfl⟩
      obtain ⟨k2, hS4⟩ := hS4
      have oth : ∀ b o, b ≠ S → h2.get? b = some o → (h2.update S (Obj.mapSeq (·.push (.str tok t2)))).get? b = some o := fun b o hb e => (Heap.get?_update_other _ _ (Ne.symm hb)).trans e
      have hBS : But [S, lx, dlx, c.sx, dsx] s.heap (h2.update S (Obj.mapSeq (·.push (.str tok t2)))) := fun b o e nn => oth b o (fun q => nn (by rw [q]; exact .head _)) (hB b o e fun q => nn (.tail _ q))
      refine ih _ (acc ++ [.str tok t2]) (us ++ [tok]) k2 i' st' tks2 tt2 ln2 tl2 a2 ?_ ⟨e2, by rw [show (Str.ofString "").length = 0 from by decide +kernel]; omega, e4, ?_⟩ (fo.but fd hBS) (hBS _ _ hd1 hn1) (hBS _ _ hd2 hn2) (strsAre_snoc' hus) (by omega) ?_ ?_ ?_
      · refine Gnd.but G hBS rfl fun r hr => ?_
        rcases List.mem_cons.mp hr with rfl | hr
        · exact hS4
        · refine oth _ _ (fun q => hS ?_) (hat r hr)
          rw [← q]
          have : r.1 ∈ (lexH w lx dlx c (stV st' tks2) (Str.ofString "") tt2 ln2 tl2 ++ sioH w c.sx dsx a2 x i').map (·.1) := List.mem_map_of_mem hr
          simpa using this
      · intro k hk
        rcases e5 with e5 | e5
        · rw [e5] at hk; cases hk
        · rw [e5] at hk; cases hk; exact .inl rfl
      · rw [List.length_append]; simp only [List.length_singleton]; omega
      · intro ts h' tk acc' k' ht hw hs' hst
        refine hR (tok :: ts) h' tk acc' k' ?_ (hw.pre hBS (fun _ q => .inl q) fd) hs' ?_
        · rw [toldN_succ, e1]; simp only; rw [if_neg hr, ht]; rfl
        · rwa [List.append_assoc, List.singleton_append] at hst
      · intro ht e h' tk fl
        refine hE ?_ e h' tk (fl.pre hBS (fun _ q => .inl q) fd)
        rw [toldN_succ, e1]; simp only; rw [if_neg hr, ht]; rfl
    · intro st' tok q r e1 hr e h' tk fl
      refine stopS (Flew.isA (s := { s with heap := h', toks := tk }) fl) ?_
      have fl' := fl.pre (But.refl [S, lx, dlx, c.sx, dsx] s.heap) (fun _ q => .inl (.tail _ q)) fd
      refine wpAny_pure (hR [] h' tk acc k ?_ fl'.went ?_ (by rwa [List.append_nil]))
      · rw [toldN_succ, e1]; simp only; rw [if_pos hr]
      · obtain ⟨k1, k2⟩ := fl.went
        exact k1 _ _ hSget hS (fun q => fd _ q (.head _))
    · intro e1 e h' tk fl
      refine stopV (Flew.isA (s := { s with heap := h', toks := tk }) fl) ?_
      refine hE ?_ e h' tk (fl.pre (But.refl [S, lx, dlx, c.sx, dsx] s.heap) (fun _ q => .inl (.tail _ q)) fd)
      rw [toldN_succ, e1]

theorem c_iter {w : World} {p : Program} {loose : List Str} {mg mb : Str → Option Value} {A : Around} {s : Shared} {Q E : Value → Shared → Prop} {lx dlx : Addr} {c : LexC} {st : Value} {tok : Str} {tt : Tok} {ln : Int} {tl : Tok}
  (hh : A.handled = none) (hroom : A.depth + 10 < recursionLimit) (hun : A.units + 100 < cLine) (G : Gnd (Mine.kFrag w.params) p loose mg mb s.heap (lexH w lx dlx c st tok tt ln tl))
  (hne : @LT.lt Nat _ dlx lx) (h : ∀ h' tk, (∀ b o, s.heap.get? b = some o → h'.get? b = some o) → Q (.ref lx) { s with heap := h', toks := tk }) :
  wpAny (model (PySem.Challenge.rw_mj0255_01).prog w) A (call (.ref 729) [.ref lx]) Q E s := by
  revert G
  k_fill
  intro G
  refine wpAny_call ?_
  walk_at "m enterH"
  intro g L h₁ F N KX T hk hlt
  (try dsimp only)
  walk_at "m go"
  (try dsimp only)
  exact h _ _ (keepsAll G hk (by assumption) (by assumption))
structure LexFacts (K : Frag) : Prop where
  next : findIn K (.ref 739) "__next__" = some (some (.ref 736))
  nextF : isFn K (.ref 736) = true
  iter : findIn K (.ref 739) "__iter__" = some (some (.ref 729))
  iterF : isFn K (.ref 729) = true
  noLen : findIn K (.ref 739) "__len__" = some none
  noHint : findIn K (.ref 739) "__length_hint__" = some none
theorem lexFacts {w : World} {h : Heap} (KX : (Mine.kFrag w.params).In h) : LexFacts (Mine.kFrag w.params) := by
  revert KX
  k_fill
  intro KX
  exact ⟨by k_is, by k_is, by k_is, by k_is, by k_is, by k_is⟩
theorem c_list {w : World} {p : Program} {loose : List Str} {mg mb : Str → Option Value} {A : Around} {s : Shared} {Q E : Value → Shared → Prop} {lx dlx dsx : Addr} {c : LexC} {tks tt : Tok} {ln : Int} {tl : Tok} {a : SioT} {x : Str} {outer : List Env}
  (hh : A.handled = none) (hroom : A.depth + 70 < recursionLimit) (hun : A.units + 700 < cLine)
  (G : Gnd (Mine.kFrag w.params) p loose mg mb s.heap (lexH w lx dlx c (stV (some 32) tks) (Str.ofString "") tt ln tl ++ sioH w c.sx dsx a x (0 : Nat)))
  (hne : @LT.lt Nat _ dlx lx) (hne2 : @LT.lt Nat _ lx dsx) (hne3 : @LT.lt Nat _ dsx c.sx) (hx : x.length ≤ 5000)
  (hwc : ∀ k ∈ c.wc.cps.toList, k ∉ wsL ∧ k ≠ 39 ∧ k ≠ 34 ∧ k ≠ 92) (hA : A.frames = some outer) (fo : FOk outer s.heap) (fd : ∀ b ∈ frs outer, b ∉ [lx, dlx, c.sx, dsx])
  (hd1 : s.heap.get? c.dq1 = some dqO) (hd2 : s.heap.get? c.dq2 = some dqO) (hn1 : c.dq1 ∉ [lx, dlx, c.sx, dsx]) (hn2 : c.dq2 ∉ [lx, dlx, c.sx, dsx])
  (hQ : ∀ ts D h' tk acc' k', toldN (x.length + 2) x.cps.toList (some 32) = some ts → s.heap.get? D = none → Went outer [lx, dlx, c.sx, dsx] s.heap h' → h'.get? D = some (listOf (List.toArray acc') k') → StrsAre acc' ts → Q (.ref D) { s with heap := h', toks := tk })
  (hE : toldN (x.length + 2) x.cps.toList (some 32) = none → ∀ e h' tk, Flew outer [lx, dlx, c.sx, dsx] s.heap e "ValueError" h' → E (.ref e) { s with heap := h', toks := tk }) :
  wpAny (model (PySem.Challenge.rw_mj0255_01).prog w) A (call (.type "list") [.ref lx]) Q E s := by
  have LF := lexFacts G.kin'
  have hgl : ∀ b o, s.heap.get? b = some o → b ≠ s.heap.objs.size := fun b o e => Nat.ne_of_lt (Heap.lt_size e)
  have hSd : s.heap.objs.size ∉ [lx, dlx, c.sx, dsx] := by
    intro q
    have hm : s.heap.objs.size ∈ (lexH w lx dlx c (stV (some 32) tks) (Str.ofString "") tt ln tl ++ sioH w c.sx dsx a x (0 : Nat)).map (·.1) := by simpa using q
    obtain ⟨r, hr, e⟩ := List.mem_map.mp hm
    exact hgl _ _ (G.at_ r hr) e
  have fdS : ∀ b ∈ frs outer, b ∉ [s.heap.objs.size, lx, dlx, c.sx, dsx] := fun b hb q => by
    rcases List.mem_cons.mp q with q | q
    · obtain ⟨o, ho, _⟩ := fo.mem hb
      exact hgl _ _ ho q
    · exact fd b hb q
  refine callType_codes (Q₁ := fun obj s₁ => obj = .ref s.heap.objs.size ∧ s₁ = { s with heap := s.heap.push { cls := .type "list", data := .seq #[] } }) PySem.F.called_list (PySem.F.typeCall_list_1 _) PySem.F.entry_list_init
    (code_list_new _ ⟨rfl, rfl⟩) fun obj s₁ h₁ => ?_
  obtain ⟨rfl, rfl⟩ := h₁
  have hS : (s.heap.push { cls := .type "list", data := .seq #[] }).get? s.heap.objs.size = some { cls := .type "list", data := .seq #[] } := Heap.get?_push_size _ rfl
  have up1 : ∀ b o, s.heap.get? b = some o → (s.heap.push { cls := .type "list", data := .seq #[] }).get? b = some o := fun b o e => Heap.get?_push_of_some _ e
  refine ⟨⟨_, hS, rfl⟩, PySem.F.args_list_init_2 _ _, ?_⟩
  generalize hSa : s.heap.objs.size = S at *
  generalize hh1 : s.heap.push { cls := .type "list", data := .seq #[] } = h1 at *
  show wpAny _ A.in1.in1 (do let old ← Builtin.List.listItems (.ref S); Builtin.List.listUpdate (.ref S) (fun _ => #[]); letGo old.toList.reverse; Builtin.List.listExtendWith (.ref S) (.ref lx) .none) _ _ _
  refine wpAny_bind ?_
  unfold Builtin.List.listItems
  refine wpAny_bind (wpAny_seqItems hS rfl (wpAny_pure ?_))
  show wpAny _ A.in1.in1 (updateSeq S (fun _ => #[]) >>= fun _ => letGo (#[] : Array Value).toList.reverse >>= fun _ => Builtin.List.listExtendWith (.ref S) (.ref lx) .none) _ _ _
  refine wpAny_bind (wpAny_updateSeq hS rfl ?_)
  have hS₂ := Heap.get?_update_self (Obj.mapSeq (fun _ => (#[] : Array Value))) hS rfl
  have up2 : ∀ b o, s.heap.get? b = some o → (h1.update S (Obj.mapSeq (fun _ => (#[] : Array Value)))).get? b = some o :=
    fun b o e => (Heap.get?_update_other _ _ (Ne.symm (hgl b o e))).trans (up1 b o e)
  refine wpAny_bind (wpAny_letGo ?_)
  generalize hh2 : h1.update S (Obj.mapSeq (fun _ => (#[] : Array Value))) = h2 at *
  have G2 : Gnd (Mine.kFrag w.params) p loose mg mb h2 (lexH w lx dlx c (stV (some 32) tks) (Str.ofString "") tt ln tl ++ sioH w c.sx dsx a x (0 : Nat)) := Gnd.but G (fun b o e _ => up2 b o e) rfl fun q hq => up2 _ _ (G.at_ q hq)
  have I2 : InstAt h2 lx (instObj 739 dlx) 739 (some (dictOf (lexE w c (stV (some 32) tks) (Str.ofString "") tt ln tl) 19)) := ⟨G2.at_ _ (.head _), rfl, rfl, G2.at_ _ (.tail _ (.head _))⟩
  have hSl : S ≠ lx := fun e => hSd (by rw [e]; exact .head _)
  unfold Builtin.List.listExtendWith
  refine wpAny_bind (I2.type.here ?_)
  have q1 : Builtin.List.listSameRef (.ref S) (.ref lx) = false := by simp [Builtin.List.listSameRef, hSl]
  have q2 : (Value.ref 739 == Value.type "list") = false := by decide
  have q3 : (Value.ref 739 == Value.type "tuple") = false := by decide
  simp only [q1, q2, q3, Bool.or_false, Bool.false_eq_true, if_false]
  refine wpAny_bind (iter_K G2.kin' I2 LF.iter LF.iterF LF.next ?_)
  refine c_iter (p := p) (loose := loose) (mg := mg) (mb := mb) (c := c) hh ?_ ?_ (G2.less (fun q hq => List.mem_append_left _ hq)) hne ?_
  · walk_at "m depth"
  · walk_at "m depth"
  intro h3 tk3 hk3
  refine ⟨rfl, hk3, ?_⟩
  have up3 : ∀ b o, s.heap.get? b = some o → h3.get? b = some o := fun b o e => hk3 b o (up2 b o e)
  have hS₃ := hk3 _ _ hS₂
  have I3 : InstAt h3 lx (instObj 739 dlx) 739 (some (dictOf (lexE w c (stV (some 32) tks) (Str.ofString "") tt ln tl) 19)) := ⟨hk3 _ _ I2.at_, rfl, rfl, hk3 _ _ (G2.at_ _ (.tail _ (.head _)))⟩
  have X3 := G2.kin'.keeps hk3
  refine wpAny_bind (wpAny_holding ?_)
  unfold Builtin.List.listLengthHint
  refine wpAny_bind (wpAny_bind (I3.type.here ((looks_findIn X3 LF.noLen).here ?_)))
  show wpAny _ A.in1.in1 (specialOf (Value.ref lx) (Str.ofString "__length_hint__") >>= _) _ _ _
  refine wpAny_bind (wpAny_bind (I3.type.here ((looks_findIn X3 LF.noHint).here ?_)))
  refine wpAny_pure ?_
  show wpAny _ A.in1.in1 (rule "list.extend.makes-room" >>= fun _ => Builtin.List.listTouch (.ref S) >>= fun _ =>
    again (.builtin "list.extend.loop" ⟨[.ref S, .ref lx, .none], []⟩)) _ _ _
  refine wpAny_bind (wpAny_rule ?_)
  refine wpAny_bind ?_
  show wpAny _ A.in1.in1 (updateSeq S (·.push .none) >>= fun _ => updateSeq S (·.pop)) _ _ _
  refine wpAny_bind (wpAny_updateSeq hS₃ rfl ?_)
  have hS₄ := Heap.get?_update_self (Obj.mapSeq (·.push Value.none)) hS₃ rfl
  refine wpAny_updateSeq (hz := by seq_fits) hS₄ rfl ?_
  have hS₅ := Heap.get?_update_self (Obj.mapSeq (·.pop)) hS₄ rfl
  have hS6 : ∃ k', ((h3.update S (Obj.mapSeq (·.push Value.none))).update S (Obj.mapSeq (·.pop))).get? S = some (listOf ([] : List Value).toArray k') := by
    rw [hS₅]
    exact ⟨_, rfl⟩
  obtain ⟨k6, hS6⟩ := hS6
  have up6 : ∀ b o, s.heap.get? b = some o → ((h3.update S (Obj.mapSeq (·.push Value.none))).update S (Obj.mapSeq (·.pop))).get? b = some o :=
    fun b o e => (Heap.get?_update_other _ _ (Ne.symm (hgl b o e))).trans ((Heap.get?_update_other _ _ (Ne.symm (hgl b o e))).trans (up3 b o e))
  generalize hh6 : (h3.update S (Obj.mapSeq (·.push Value.none))).update S (Obj.mapSeq (·.pop)) = h6 at *
  have G6 : Gnd (Mine.kFrag w.params) p loose mg mb h6 ((S, listOf ([] : List Value).toArray k6) :: (lexH w lx dlx c (stV (some 32) tks) (Str.ofString "") tt ln tl ++ sioH w c.sx dsx a x (0 : Nat))) := by
    have e0 : s.heap.get? S = none := by rw [← hSa]; exact Heap.get?_none_of_le (Nat.le_refl _)
    have k : ∀ b o, (hideAll s.heap ((lexH w lx dlx c (stV (some 32) tks) (Str.ofString "") tt ln tl ++ sioH w c.sx dsx a x (0 : Nat)).map (·.1))).get? b = some o → (hideAll h6 (((S, listOf ([] : List Value).toArray k6) :: (lexH w lx dlx c (stV (some 32) tks) (Str.ofString "") tt ln tl ++ sioH w c.sx dsx a x (0 : Nat))).map (·.1))).get? b = some o := fun b o q => by
      have hn : b ∉ ((lexH w lx dlx c (stV (some 32) tks) (Str.ofString "") tt ln tl ++ sioH w c.sx dsx a x (0 : Nat)).map (·.1)) := fun hm => by rw [hideAll_none _ hm] at q; cases q
      refine hideAll_get _ (up6 b o (of_hideAll _ q)) fun hm => ?_
      rcases List.mem_cons.mp hm with hm | hm
      · exact hgl _ _ (of_hideAll _ q) hm
      · exact hn hm
    refine ⟨G.kin.keeps k, G.top.keeps k, fun q hq => ?_⟩
    rcases List.mem_cons.mp hq with rfl | hq
    · exact hS6
    · exact up6 _ _ (G.at_ q hq)
  have hnew : ∀ d ∈ [S, lx, dlx, c.sx, dsx], d ∈ [lx, dlx, c.sx, dsx] ∨ s.heap.get? d = none := fun d hd => by
    rcases List.mem_cons.mp hd with rfl | hd
    · exact .inr (by rw [← hSa]; exact Heap.get?_none_of_le (Nat.le_refl _))
    · exact .inl hd
  have hB6 : But [lx, dlx, c.sx, dsx] s.heap h6 := fun b o e _ => up6 b o e
  refine wpAny_pure ⟨plainId_quiet PySem.F.plain_extend_loop _, c_loop (p := p) (loose := loose) (mg := mg) (mb := mb) (outer := outer) (A := A.in1) hh ?_ ?_ hne hne2 hne3 hx hwc hA fdS
    (fun q => (List.mem_cons.mp q).elim (hgl _ _ hd1) hn1) (fun q => (List.mem_cons.mp q).elim (hgl _ _ hd2) hn2) hSd LF.next LF.nextF (x.length + 2) _ [] [] k6 0 (some 32) tks tt ln tl a G6 ⟨Nat.zero_le _, by rw [show (Str.ofString "").length = 0 from by decide +kernel]; omega, (fun h => by cases h), (fun k h => by cases h; exact .inl rfl)⟩ (fo.but (ds := []) (fun _ _ q => nomatch q) (fun b o e _ => up6 b o e)) (up6 _ _ hd1) (up6 _ _ hd2) .nil ?_ ?_ ?_ ?_⟩
  · walk_at "m depth"
  · walk_at "m depth"
  · show x.length - 0 + 1 < x.length + 2; omega
  · show 0 + (x.length - 0 + 1) ≤ 5002; omega
  · intro ts h' tk acc' k' ht hw hs' hst
    exact ⟨rfl, hQ ts S h' tk acc' k' ht (by rw [← hSa]; exact Heap.get?_none_of_le (Nat.le_refl _)) (hw.pre hB6 hnew fd) hs' hst⟩
  · intro ht e h' tk fl
    exact hE ht e h' tk (fl.pre hB6 hnew fd)
end
section
open PySem PySem.W PySem.Calls PySem.Spec PyProof.Rows
set_option maxRecDepth 100000
set_option maxHeartbeats 4000000
structure ClsAt (h : Heap) (c : Addr) (mro bases : List Value) : Prop where
  ex : ∃ oc od cd sl, h.get? c = some ⟨oc, od, .cls cd, sl⟩ ∧ cd.mro = mro ∧ cd.bases = bases ∧ cd.slotNames = [] ∧ (sl.toList[4]?).join = some Value.none ∧ cd.abstract = false ∧ cd.hasDel = false
section
variable {M : Model} {h : Heap} {c b : Addr} {mro bases : List Value}
theorem ClsAt.mroL (x : ClsAt h c mro bases) : Looks M h (mroOf (.ref c)) mro := by
  obtain ⟨oc, od, cd, sl, h1, rfl, _⟩ := x.ex
  exact ((Looks.ld h1).andThen .now).andThen .now
theorem ClsAt.madeL (x : ClsAt h c mro bases) (hm : mro ≠ []) : Looks M h (Bind.madeBy (.ref c)) none := by
  have hl := x.mroL (M := M)
  obtain ⟨oc, od, cd, sl, h1, _, _, _, e3, _⟩ := x.ex
  intro A Q E s k q
  unfold Bind.madeBy
  refine wpAny_bind (hl A _ E s k ?_)
  cases mro with
  | nil => exact absurd rfl hm
  | cons a l =>
    rw [List.forIn_cons]
    refine wpAny_bind (wpAny_bind (wpAny_bind (wpAny_bind (wpAny_loadPart (k _ _ h1) (wpAny_pure ?_)))))
    dsimp only
    rw [← Array.getElem?_toList, e3]
    exact wpAny_pure (wpAny_pure (wpAny_pure q))
end
structure NewFacts (K : Frag) (C p fN fI : Addr) (rs : List Value) : Prop where
  self : subIn K (.ref C) (.ref C) = some true
  call : specialIn K (.ref C) "__call__" = some (some (.builtin "type.__call__"))
  typ : instIn K (.ref C) (.type "type") = some true
  rd : readsIn K C (.type "type") = true
  fc : findCls K (.ref C) (.type "type") "__new__" = some (.get (.builtin "staticmethod.__get__") (.ref p) .none (.ref C))
  sm : recIn K p "staticmethod" = some (.ref fN :: rs)
  init : findIn K (.ref C) "__init__" = some (some (.ref fI))
  initF : isFn K (.ref fI) = true
section
variable {prog : Program} {w : World} {A : Around} {K : Frag} {C p fN fI : Addr} {rs : List Value} {R : Result → Shared → Prop} {s : Shared} {mro bases : List Value}
theorem make_N {rest : List Value} {kw : List (Str × Value)} (Y : NewFacts K C p fN fI rs) (Z : ClsAt s.heap C mro bases) (hmr : mro ≠ []) (X : K.In s.heap)
    (hq : wpAny (model prog w) (A.under (.builtin "type.__call__" ⟨.ref C :: rest, kw⟩)) (call (.ref fN) (.ref C :: rest) kw)
      (fun v s₁ => ∃ x dx od, v = .ref x ∧ InstAt s₁.heap x (instObj C dx) C od ∧ K.In s₁.heap ∧
        codeAny (model prog w) (A.under (.builtin "type.__call__" ⟨.ref C :: rest, kw⟩)) (.call (.ref fI) ⟨.ref x :: rest, kw⟩) (InitBack x R) s₁) (fun e s' => R (.error e) s') { s with toks := s.toks + 1 }) :
    codeAny (model prog w) A (.call (.ref C) ⟨rest, kw⟩) R s := by
  obtain ⟨hp, g, d, t, os⟩ := s
  have hm := Z.mroL (M := model prog w)
  have made := Z.madeL (M := model prog w) hmr
  have e4 : mro.isEmpty = false := by cases mro with | nil => exact absurd rfl hmr | cons _ _ => rfl
  obtain ⟨oc, od, cd, sl, hC, _⟩ := Z.ex
  have self : ∀ h, K.In h → Looks (model prog w) h (isSubtype (.ref C) (.ref C)) true := fun h X => looks_subIn X Y.self
  have call := looks_specialIn (M := model prog w) X Y.call
  have typ := looks_instIn (M := model prog w) X Y.typ
  refine codeAny_of_tree ?_
  show wpAny _ _ (callAny (.ref C) _) _ _ _
  refine nd_load hC ?_
  show wpAny _ _ (callAny.viaDunder (.ref C) _) _ _ _
  unfold callAny.viaDunder
  refine wpAny_bind (call.at ?_)
  dsimp only
  rw [tc_bind]
  refine wpAny_bind (wpAny_pure (wpAny_bind (wpAny_pure ?_)))
  refine wpAny_pure (a := Fin.again (.call (.builtin "type.__call__") ⟨.ref C :: rest, kw⟩)) (And.intro rfl ?_)
  refine codeAny_call_builtin_at (Code.quiet_builtin _ (by decide +kernel)) entry_typeCall (check_slot tc_kind tc_split typ (tc_args _ _ _) ?_)
  unfold Builtin.«type.__call__»
  repeat ((fail_if_success (with_reducible show wpAny _ _ (getAttr _ _ _) _ _ _)); first | simp only [e4, Bool.false_eq_true, if_false] | lk)
  refine cls_bind (s := ⟨hp, g, d, t, os⟩) X Y.rd Y.fc (wpAny_call (sm_get (s := ⟨hp, g, d, t + 1, os⟩) X Y.sm ?_))
  refine handed_on rfl ?_
  refine wpAny_bind (wpAny_holding (wpAny_mono hq (fun v s₁ z => ?_) fun _ _ z => z))
  obtain ⟨x, dx, odx, rfl, I, X1, hinit⟩ := z
  refine wpAny_bind (wpAny_bind (I.type.here ((self _ X1).here ?_)))
  simp only [Bool.not_true, Bool.false_eq_true, if_false]
  refine wpAny_bind (wpAny_holding (wpAny_bind (wpAny_bind (I.type.here ((looks_findIn X1 Y.init).here (wpAny_holding (wpAny_bind ((bind_fn X1 _ (beq_iff_eq.mp Y.initF)).here (wpAny_bind (wpAny_call (codeAny_mono hinit fun r s' z => ?_)))))))))))
  rcases r with e | (v | _ | _ | _) <;> first | exact z | exact z.elim | skip
  obtain ⟨rfl, z⟩ := z
  exact wpAny_pure (wpAny_pure z)
end
end
section
open PySem PySem.W PySem.Calls PySem.Spec PyProof.Rows Builtin
set_option maxRecDepth 100000
set_option maxHeartbeats 4000000
section
variable {M : Model} {h : Heap} {c b : Addr} {mro bases : List Value}
theorem ClsAt.basesL {α : Type} {f : List Value → Sem α} {r : α} (x : ClsAt h c mro bases) (k : Looks M h (f bases) r) : Looks M h (do f (← classData c).bases) r := by
  obtain ⟨oc, od, cd, sl, h1, _, rfl, _⟩ := x.ex
  exact (((Looks.ld h1).andThen .now)).andThen k
theorem ClsAt.namesL (x : ClsAt h c mro bases) : Looks M h (Slots.slotNamesOf (.ref c)) [] := by
  obtain ⟨oc, od, cd, sl, h1, _, _, e, _⟩ := x.ex
  unfold Slots.slotNamesOf
  exact ((Looks.ld h1).andThen .now).andThen (by show Looks M h (pure cd.slotNames) []; rw [e]; exact .now)
theorem ClsAt.dataL (x : ClsAt h c mro bases) : ∃ cd, Looks M h (classData c) cd ∧ cd.bases = bases := by
  obtain ⟨oc, od, cd, sl, h1, _, e, _⟩ := x.ex
  exact ⟨cd, (Looks.ld h1).andThen .now, e⟩
theorem namesObj : Slots.slotNamesOf (.type "object") = pure [] := by kernel_rfl
theorem adds0 {v : Value} (x : ClsAt h c mro [v]) (hv : Looks M h (Slots.slotNamesOf v) []) : Looks M h (Slots.addsLayout (.ref c)) false := by
  obtain ⟨oc, od, cd, sl, h1, _, e2, e, _⟩ := x.ex
  intro A Q E s k q
  unfold Slots.addsLayout
  refine wpAny_bind (wpAny_bind (wpAny_load (k _ _ h1) (wpAny_pure ?_)))
  dsimp only
  rw [e2, e, List.forIn_cons]
  refine wpAny_bind (wpAny_bind (wpAny_bind (hv A _ E s k ?_)))
  exact wpAny_pure (wpAny_pure (wpAny_pure q))
theorem best1 {v r : Value} (hs : Looks M h (Slots.solid v) r) : Looks M h (Slots.bestBase [v]) v := by
  intro A Q E s k q
  unfold Slots.bestBase
  dsimp only
  rw [List.forIn_cons]
  refine wpAny_bind (wpAny_bind (wpAny_bind (hs A _ E s k ?_)))
  exact wpAny_pure (wpAny_pure (wpAny_pure q))
theorem solidObj : Slots.solid (.type "object") = pure (.type "object") := by kernel_rfl
theorem addsObj : Slots.addsLayout (.type "object") = pure false := rfl
theorem madeObj : Bind.madeBy (.type "object") = pure (some "object.__new__") := by kernel_rfl
theorem solid1 (x : ClsAt h c [.ref c, .type "object"] [.type "object"]) : Looks M h (Slots.solid (.ref c)) (.type "object") := by
  have a := adds0 (M := M) x (Looks.of_pure namesObj)
  intro A Q E s k q
  unfold Slots.solid
  refine wpAny_bind (x.mroL A _ E s k ?_)
  dsimp only
  rw [List.forIn_cons]
  refine wpAny_bind (wpAny_bind (wpAny_bind (a A _ E s k ?_)))
  refine wpAny_pure ?_
  dsimp only
  exact wpAny_of_eq (a := (some (.type "object"), ())) (by kernel_rfl) (wpAny_pure q)
theorem solid2 (x : ClsAt h c [.ref c, .ref b, .type "object"] [.ref b]) (y : ClsAt h b [.ref b, .type "object"] [.type "object"]) : Looks M h (Slots.solid (.ref c)) (.type "object") := by
  have a := adds0 (M := M) x y.namesL
  have a' := adds0 (M := M) y (Looks.of_pure namesObj)
  intro A Q E s k q
  unfold Slots.solid
  refine wpAny_bind (x.mroL A _ E s k ?_)
  dsimp only
  rw [List.forIn_cons]
  refine wpAny_bind (wpAny_bind (wpAny_bind (a A _ E s k ?_)))
  refine wpAny_pure ?_
  dsimp only
  rw [List.forIn_cons]
  refine wpAny_bind (wpAny_bind (a' A _ E s k ?_))
  refine wpAny_pure ?_
  dsimp only
  exact wpAny_of_eq (a := (some (.type "object"), ())) (by kernel_rfl) (wpAny_pure q)
theorem static3 {c1 c2 c3 : Addr} (x : ClsAt h c1 [.ref c1, .ref c2, .ref c3, .type "object"] [.ref c2]) (y : ClsAt h c2 [.ref c2, .ref c3, .type "object"] [.ref c3]) (z : ClsAt h c3 [.ref c3, .type "object"] [.type "object"]) :
    Looks M h (Bind.staticBase (.ref c1)) (.type "object") := by
  intro A Q E s k q
  have m1 := x.madeL (M := M) (by simp)
  have m2 := y.madeL (M := M) (by simp)
  have m3 := z.madeL (M := M) (by simp)
  unfold Bind.staticBase
  refine wpAny_bind (x.mroL A _ E s k ?_)
  dsimp only
  rw [List.forIn_cons]
  refine wpAny_bind (wpAny_bind (wpAny_bind (m1 A _ E s k ?_)))
  simp only [Option.isSome_none, Bool.false_eq_true, if_false]
  obtain ⟨cd1, d1, b1⟩ := x.dataL (M := M)
  obtain ⟨cd2, d2, b2⟩ := y.dataL (M := M)
  obtain ⟨cd3, d3, b3⟩ := z.dataL (M := M)
  refine wpAny_bind (d1 A _ E s k ?_)
  rw [b1]
  refine wpAny_bind (best1 (solid2 y z) A _ E s k ?_)
  refine wpAny_pure ?_
  dsimp only
  rw [List.forIn_cons]
  refine wpAny_bind (wpAny_bind (m2 A _ E s k ?_))
  simp only [Option.isSome_none, Bool.false_eq_true, if_false]
  refine wpAny_bind (d2 A _ E s k ?_)
  rw [b2]
  refine wpAny_bind (best1 (solid1 z) A _ E s k ?_)
  refine wpAny_pure ?_
  dsimp only
  rw [List.forIn_cons]
  refine wpAny_bind (wpAny_bind (m3 A _ E s k ?_))
  simp only [Option.isSome_none, Bool.false_eq_true, if_false]
  refine wpAny_bind (d3 A _ E s k ?_)
  rw [b3]
  refine wpAny_bind (best1 (Looks.of_pure solidObj) A _ E s k ?_)
  refine wpAny_pure ?_
  dsimp only
  rw [List.forIn_cons]
  refine wpAny_bind (wpAny_bind (wpAny_of_eq madeObj ?_))
  exact wpAny_pure (wpAny_pure (wpAny_pure q))
end
section
variable {prog : Program} {w : World} {A : Around} {c1 c2 c3 : Addr} {R : Result → Shared → Prop} {h : Heap} {g : Array GenState} {d : Drawn} {t : Nat} {os : OsState}
theorem new_N (x : ClsAt h c1 [.ref c1, .ref c2, .ref c3, .type "object"] [.ref c2]) (y : ClsAt h c2 [.ref c2, .ref c3, .type "object"] [.ref c3]) (z : ClsAt h c3 [.ref c3, .type "object"] [.type "object"])
    (top : Looks (model prog w) h (isSubtype (.ref c1) (.type "object")) true)
    (hq : R (.ok (.ret (.ref (h.objs.size + 1)))) ⟨(h.push emptyDict).push (instObj c1 h.objs.size), g, d, t, os⟩) :
    codeAny (model prog w) A (.call (.builtin "object.__new__") ⟨[.ref c1], []⟩) R ⟨h, g, d, t, os⟩ := by
  have base := static3 (M := model prog w) x y z
  have mo : Looks (model prog w) h (Bind.madeBy (.type "object")) (some "object.__new__") := Looks.of_pure madeObj
  obtain ⟨oc, od, cd, sl, hC, _, _, _, _, e1, e2⟩ := x.ex
  have F := PySem.F.objNew
  refine codeAny_call_builtin_code (Code.quiet_builtin _ F.quiet) ?_
  simp only [checkBuiltinCall, F.kind, F.split, F.row]
  have here : Looks (model prog w) h (Bind.madeHere "object.__new__" (.ref c1)) () := base.andThen ((Looks.of_pure madeObj).andThen (Looks.of_pure (by simp only [Option.map_some, bne_self_eq_false, Bool.false_eq_true, if_false])))
  have args : Bind.checkArgs "object.__new__" ⟨.hand, "object.__new__", "__new__", .cls, []⟩ ⟨[.ref c1], []⟩ = pure () := by kernel_rfl
  rw [args]
  repeat (first | simp only [bne_self_eq_false, Bool.false_eq_true, if_false] | lk)
  refine codeAny_builtin F.entry ?_
  unfold Builtin.«object.__new__»
  have fin : ∀ A', wpAny (model prog w) A' (do
      let d ← if typeHasDict (.ref c1) then some <$> alloc { cls := .type "dict", data := .dict #[] } else pure none
      ret (← newObj (.ref c1) .plain d)) (fun fin s' => match fin with | .done f => R (.ok f) s' | .again c' => c'.quiet = true ∧ codeAny (model prog w) A c' R s') (fun e s' => R (.error e) s') ⟨h, g, d, t, os⟩ := by
    intro A'
    show wpAny _ _ ((alloc emptyDict >>= fun x => pure (some x)) >>= _) _ _ _
    refine wpAny_bind (wpAny_bind (wpAny_alloc (wpAny_pure (wpAny_bind ?_))))
    show wpAny _ _ (newObjAsIs _ _ _) _ _ _
    unfold newObjAsIs classHasDel
    refine wpAny_bind (wpAny_alloc (wpAny_bind (wpAny_bind (wpAny_load (Heap.get?_push_of_some _ (Heap.get?_push_of_some _ hC)) (wpAny_pure ?_)))))
    rw [e2]
    refine wpAny_pure (wpAny_pure ?_)
    show R _ _
    rw [Heap.size_push]
    exact hq
  repeat (first | simp only [e1, Bool.false_eq_true, if_false] | exact fin _ | lk)
end
end
section
open PySem PySem.W PySem.Calls PySem.Spec PyProof.Rows
set_option maxRecDepth 100000
set_option maxHeartbeats 0

section
variable {prog : Program} {w : World} {A : Around} {s : Shared} {K : Frag} {R : Result → Shared → Prop} {name qual : Str} {params : Arguments} {body : List Stmt} {scope : Scope} {dV kV doc pm cdv ct oc : Value} {an od : Option Addr} {osl : Array (Option Value)} {f : Addr} {args : Args}
theorem enterVK {vs : List Value} {binds : Value → Addr → List (Str × Value)} (X : K.In s.heap) (hlim : s.heap.NoLimit)
    (ho : K.lookup f = some ⟨oc, od, .func (fnOf name qual params body scope dV kV doc pm an cdv ct), osl⟩) (hcd : codeIn K cdv qual = true) (hroom : A.depth < recursionLimit)
    (hbind : bindArgs (fnOf name qual params body scope dV kV doc pm an cdv ct) args = (newTuple vs >>= fun t => alloc emptyDict >>= fun d => pure (binds t d))) (hloc : ∀ t d, ∀ y ∈ binds t d, scope.names.lookup y.1 = some .local) (hn : vs.length ≤ 100)
    (h : ∀ D D' L h₁ tk, Fr s.heap L h₁ (fun y => (binds (.ref D) D').reverse.lookup y) → News s.heap L h₁ [(D, tupO vs), (D', emptyDict)] →
      wpAny (model prog w) (A.deeper (envOf qual scope L f cdv)) (execs body (envOf qual scope L f cdv))
        (fun fl s' => R (.ok (.ret (match fl with | .ret v => v | _ => .none))) s')
        (fun e s' => wpAny (model prog w) (A.deeper (envOf qual scope L f cdv)) (leaving (envOf qual scope L f cdv) e) (fun _ s'' => R (.error e) s'') (fun e' s'' => R (.error e') s'') s')
        { s with heap := h₁, toks := tk })
    (hco : scope.isCoroutine = false) (hgen : scope.isGenerator = false) (hk : scope.kind = .function)
    (hcell : ∀ x ∈ scope.names, x.2 ≠ .cell) : codeAny (model prog w) A (.call (.ref f) args) R s := by
  refine codeAny_call_function hroom (X _ _ ho) rfl hco hgen rfl (codeRec_of X hcd) ?_
  rw [hbind]
  refine wpAny_bind (wpAny_newTuple (wpAny_bind (wpAny_alloc (wpAny_pure ?_))) (by rw [sizeLine_eq]; omega))
  refine wpAny_newFunctionEnv hcell (hloc _ _) (fun h₀ hns₀ hsb₀ => ⟨(hlim.keeps fun b o e => Heap.get?_push_of_some _ (Heap.get?_push_of_some _ e)).fresh _ hsb₀, codeAny_func ?_⟩) hk
  have up : ∀ b o, ((s.heap.push (tupO vs)).push emptyDict).get? b = some o → h₀.get? b = some o := fun b o e => hsb₀.extBut b o (Nat.ne_of_lt (Heap.lt_size e)) (Heap.get?_push_of_some _ e)
  refine h s.heap.objs.size _ _ h₀ _ ⟨hns₀, fun b o e => up b o (Heap.get?_push_of_some _ (Heap.get?_push_of_some _ e)), ?_⟩ ?_
  · show s.heap.objs.size ≤ ((s.heap.push (tupO vs)).push emptyDict).objs.size
    rw [Heap.size_push, Heap.size_push]; omega
  · intro p hp
    rcases List.mem_cons.mp hp with rfl | hp
    · refine ⟨up _ _ (Heap.get?_push_of_some _ (Heap.get?_push_size _ rfl)), ?_, Heap.get?_none_of_le (Nat.le_refl _)⟩
      show s.heap.objs.size ≠ ((s.heap.push (tupO vs)).push emptyDict).objs.size
      rw [Heap.size_push, Heap.size_push]; omega
    · rw [List.mem_singleton] at hp
      subst hp
      refine ⟨up _ _ (Heap.get?_push_size _ rfl), ?_, ?_⟩
      · show (s.heap.push (tupO vs)).objs.size ≠ ((s.heap.push (tupO vs)).push emptyDict).objs.size
        simp only [Heap.size_push]; omega
      · refine Heap.get?_none_of_le ?_
        show s.heap.objs.size ≤ (s.heap.push (tupO vs)).objs.size
        rw [Heap.size_push]; omega
end

structure SioK (K : Frag) : Prop where
  l1 : ∃ oc od cd sl, K.lookup 604 = some ⟨oc, od, .cls cd, sl⟩ ∧ cd.mro = [.ref 604, .ref 127, .ref 100, .type "object"] ∧ cd.bases = [.ref 127] ∧ cd.slotNames = [] ∧ (sl.toList[4]?).join = some Value.none ∧ cd.abstract = false ∧ cd.hasDel = false
  l2 : ∃ oc od cd sl, K.lookup 127 = some ⟨oc, od, .cls cd, sl⟩ ∧ cd.mro = [.ref 127, .ref 100, .type "object"] ∧ cd.bases = [.ref 100] ∧ cd.slotNames = [] ∧ (sl.toList[4]?).join = some Value.none ∧ cd.abstract = false ∧ cd.hasDel = false
  l3 : ∃ oc od cd sl, K.lookup 100 = some ⟨oc, od, .cls cd, sl⟩ ∧ cd.mro = [.ref 100, .type "object"] ∧ cd.bases = [.type "object"] ∧ cd.slotNames = [] ∧ (sl.toList[4]?).join = some Value.none ∧ cd.abstract = false ∧ cd.hasDel = false
  top : subIn K (.ref 604) (.type "object") = some true
  nf : NewFacts K 604 101 97 374 []
theorem clsAtK {K : Frag} {h : Heap} {c : Addr} {mro bases : List Value} (X : K.In h) (l : ∃ oc od cd sl, K.lookup c = some ⟨oc, od, .cls cd, sl⟩ ∧ cd.mro = mro ∧ cd.bases = bases ∧ cd.slotNames = [] ∧ (sl.toList[4]?).join = some Value.none ∧ cd.abstract = false ∧ cd.hasDel = false) : ClsAt h c mro bases := by
  obtain ⟨oc, od, cd, sl, e, r⟩ := l
  exact ⟨⟨oc, od, cd, sl, X _ _ e, r⟩⟩
theorem clsK {K : Frag} {c : Addr} {mro bases : List Value} {oc : Value} {od : Option Addr} {cd : ClassData} {sl : Array (Option Value)} (h1 : K.lookup c = some ⟨oc, od, .cls cd, sl⟩) (h2 : cd.mro = mro) (h3 : cd.bases = bases) (h4 : cd.slotNames = []) (h5 : (sl.toList[4]?).join = some Value.none) (h6 : cd.abstract = false) (h7 : cd.hasDel = false) :
    ∃ oc od cd sl, K.lookup c = some ⟨oc, od, .cls cd, sl⟩ ∧ cd.mro = mro ∧ cd.bases = bases ∧ cd.slotNames = [] ∧ (sl.toList[4]?).join = some Value.none ∧ cd.abstract = false ∧ cd.hasDel = false := ⟨oc, od, cd, sl, h1, h2, h3, h4, h5, h6, h7⟩
theorem sioK {w : World} {h : Heap} (KX : (Mine.kFrag w.params).In h) (hw : PySem.Challenge.rw_mj0255_01 = PySem.Challenge.rw_mj0255_01) : SioK (Mine.kFrag w.params) := by
  revert KX hw
  k_fill
  intro KX _
  refine ⟨?_, ?_, ?_, by k_is, ⟨by k_is, by k_is, by k_is, by k_is, by k_is, by k_is, by k_is, by k_is⟩⟩
  all_goals (k_dflt (refine' clsK ?k ?k1 ?k2 ?k3 ?k4 ?k5 ?k6; (case k => k_is); (case k1 => rfl); (case k2 => rfl); (case k3 => rfl); (case k4 => rfl); (case k5 => rfl); (case k6 => rfl)))
theorem c_new97 {w : World} {p : Program} {loose : List Str} {mg mb : Str → Option Value} {A : Around} {s : Shared} {Q E : Value → Shared → Prop} {x : Str} {t : Tok}
  (hh : A.handled = none) (hroom : A.depth + 10 < recursionLimit) (hun : A.units + 100 < cLine) (KX : (Mine.kFrag w.params).In s.heap) (T : TopRead p loose mg mb s.heap)
  (h : ∀ sx dx s', Keeps s s' → s.heap.get? sx = none → s.heap.get? dx = none → s'.heap.get? sx = some (instObj 604 dx) → s'.heap.get? dx = some emptyDict → @LT.lt Nat _ dx sx → (∀ b o, s.heap.get? b = some o → @LT.lt Nat _ b dx) → Q (.ref sx) s') :
  wpAny (model (PySem.Challenge.rw_mj0255_01).prog w) A (call (.ref 97) [.ref 604, .str x t]) Q E s := by
  revert KX
  k_fill
  intro KX
  refine wpAny_call ?_
  k_dflt (refine' enterVK (vs := [.str x t]) (binds := fun a d => [(Str.ofString "cls", .ref 604), (Str.ofString "args", a), (Str.ofString "kwargs", .ref d)]) KX T.nolimit ?k6 ?k7 ?k8 ?k9 ?kB ?kn ?_ ?c2 ?c3 ?c4 ?c5; (case k6 => k_is); (case k7 => k_is); (case k8 => omega); (case k9 => (with_unfolding_all rfl)); (case kB => (intro a d; exact locs rfl)); (case kn => simp); (case c5 => decide); (case c2 => exact rfl); (case c3 => exact rfl); (case c4 => exact rfl); k_whole)
  intro D D' L h₁ tk F N
  (try dsimp only)
  walk_at "m go"
  rename Fr _ _ _ _ => F1
  have X1 := KX.keeps F1.keep
  have SK := sioK KX rfl
  refine wpAny_call (new_N (clsAtK X1 SK.l1) (clsAtK X1 SK.l2) (clsAtK X1 SK.l3) (looks_subIn X1 SK.top) ?_)
  rename News _ _ _ _ => N1
  have hsz := Nat.lt_of_le_of_lt F1.above F1.ns.lt
  have up := fun b o (e : s.heap.get? b = some o) => Heap.get?_push_of_some (instObj 604 h₁.objs.size) (Heap.get?_push_of_some emptyDict (F1.keep b o e))
  refine h _ _ _ ⟨_, _, rfl, up⟩ (Heap.get?_none_of_le ?_) (Heap.get?_none_of_le (Nat.le_of_lt hsz)) ?_ (Heap.get?_push_of_some _ (Heap.get?_push_size _ rfl)) (Nat.lt_succ_self _) (fun b o e => Nat.lt_trans (Heap.lt_size e) hsz)
  · exact Nat.le_of_lt (Nat.lt_succ_of_lt hsz)
  · exact (congrArg _ (Heap.size_push _ _).symm).trans (Heap.get?_push_size _ rfl)
theorem c_sio {w : World} {p : Program} {loose : List Str} {mg mb : Str → Option Value} {A : Around} {s : Shared} {Q E : Value → Shared → Prop} {x : Str} {t : Tok}
  (hh : A.handled = none) (hroom : A.depth + 30 < recursionLimit) (hun : A.units + 300 < cLine) (KX : (Mine.kFrag w.params).In s.heap) (T : TopRead p loose mg mb s.heap) (hx : x.length ≤ 5000)
  (h : ∀ sx dsx h' tk a, (∀ b o, s.heap.get? b = some o → h'.get? b = some o) → s.heap.get? sx = none → s.heap.get? dsx = none → h'.get? sx = some (instObj 604 dsx) → h'.get? dsx = some (dictOf (sioE w a x (0 : Nat)) 3) → @LT.lt Nat _ dsx sx → (∀ b o, s.heap.get? b = some o → @LT.lt Nat _ b dsx) → Q (.ref sx) { s with heap := h', toks := tk }) :
  wpAny (model (PySem.Challenge.rw_mj0255_01).prog w) A (call (.ref 604) [.str x t]) Q E s := by
  have SK := sioK KX rfl
  have dA := depth_under_kw A 604 [.str x t] []
  have uA : (A.under (.builtin "type.__call__" ⟨[.ref 604, .str x t], []⟩)).units = A.units + 1 := rfl
  refine wpAny_call (make_N SK.nf (clsAtK KX SK.l1) (by simp) KX ?_)
  refine c_new97 (p := p) (loose := loose) (mg := mg) (mb := mb) hh (by rw [dA]; omega) (by rw [uA]; omega) KX T ?_
  intro sx dsx s1 hk1 n1 n2 e1 e2 hlt hall
  obtain ⟨h1, tk1, rfl, hk1⟩ := hk1
  refine ⟨sx, dsx, some emptyDict, rfl, ⟨e1, rfl, rfl, e2⟩, KX.keeps hk1, ?_⟩
  have G : Gnd (Mine.kFrag w.params) p loose mg mb h1 [(sx, instObj 604 dsx), (dsx, dictOf [] 0)] := by
    have k : ∀ b o, s.heap.get? b = some o → (hideAll h1 ([(sx, instObj 604 dsx), (dsx, dictOf [] 0)].map (·.1))).get? b = some o := fun b o e => hideAll_get _ (hk1 b o e) fun q => by
      rcases q with _ | ⟨_, _ | ⟨_, q⟩⟩
      · rw [n1] at e; cases e
      · rw [n2] at e; cases e
      · cases q
    refine ⟨KX.keeps k, T.keeps k, fun q hq => ?_⟩
    rcases hq with _ | ⟨_, _ | ⟨_, hq⟩⟩
    · exact e1
    · exact e2
    · cases hq
  refine c_sinit (p := p) (loose := loose) (mg := mg) (mb := mb) hh (by rw [dA]; omega) (by rw [uA]; omega) G hlt hx ?_
  intro h2 tk2 a hB q1 q2
  refine ⟨rfl, ?_⟩
  refine h sx dsx h2 tk2 a (fun b o e => hB b o (hk1 b o e) fun q => ?_) n1 n2 q1 q2 hlt hall
  rcases q with _ | ⟨_, _ | ⟨_, q⟩⟩
  · rw [n1] at e; cases e
  · rw [n2] at e; cases e
  · cases q
end
section
open PySem PySem.W PySem.Calls PySem.Spec PyProof.Rows
set_option maxRecDepth 100000
set_option maxHeartbeats 0

theorem newsCons {h₀ h h' : Heap} {L D : Addr} {m : Str → Option Value} {news : List (Addr × Obj)} {o : Obj} (F : Fr h₀ L h m) (N : News h₀ L h' news) (hD : h.get? D = none) (ho : h'.get? D = some o) :
    News h₀ L h' ((D, o) :: news) := by
  intro p hp
  rcases List.mem_cons.mp hp with rfl | hp
  · refine ⟨ho, fun e => ?_, ?_⟩
    · obtain ⟨oL, _, _, hL, _⟩ := F.ns
      have e' : D = L := e
      rw [← e', hD] at hL; cases hL
    · cases q : h₀.get? D with
      | none => rfl
      | some o' => have := F.keep _ _ q; rw [hD] at this; cases this
  · exact N p hp
abbrev lexI (w : World) (c : LexC) (cm wsv st : Value) (tok : Str) (tt : Tok) (ln : Int) (tl : Tok) : List DictEntry :=
  [⟨PyData.keyHash w.params (Str.ofString "instream"), .str (Str.ofString "instream") c.k0, .ref c.sx⟩,
   ⟨PyData.keyHash w.params (Str.ofString "infile"), .str (Str.ofString "infile") c.k1, .none⟩,
   ⟨PyData.keyHash w.params (Str.ofString "posix"), .str (Str.ofString "posix") c.k2, .bool true⟩,
   ⟨PyData.keyHash w.params (Str.ofString "eof"), .str (Str.ofString "eof") c.k3, .none⟩,
   ⟨PyData.keyHash w.params (Str.ofString "commenters"), .str (Str.ofString "commenters") c.k4, cm⟩,
   ⟨PyData.keyHash w.params (Str.ofString "wordchars"), .str (Str.ofString "wordchars") c.k5, .str c.wc c.v5⟩,
   ⟨PyData.keyHash w.params (Str.ofString "whitespace"), .str (Str.ofString "whitespace") c.k6, .str (Str.ofString " \t\r\n") c.v6⟩,
   ⟨PyData.keyHash w.params (Str.ofString "whitespace_split"), .str (Str.ofString "whitespace_split") c.k7, wsv⟩,
   ⟨PyData.keyHash w.params (Str.ofString "quotes"), .str (Str.ofString "quotes") c.k8, .str (Str.ofString "'\"") c.v8⟩,
   ⟨PyData.keyHash w.params (Str.ofString "escape"), .str (Str.ofString "escape") c.k9, .str (Str.ofString "\\") c.v9⟩,
   ⟨PyData.keyHash w.params (Str.ofString "escapedquotes"), .str (Str.ofString "escapedquotes") c.k10, .str (Str.ofString "\"") c.v10⟩,
   ⟨PyData.keyHash w.params (Str.ofString "state"), .str (Str.ofString "state") c.k11, st⟩,
   ⟨PyData.keyHash w.params (Str.ofString "pushback"), .str (Str.ofString "pushback") c.k12, .ref c.dq1⟩,
   ⟨PyData.keyHash w.params (Str.ofString "lineno"), .str (Str.ofString "lineno") c.k13, .int ln tl⟩,
   ⟨PyData.keyHash w.params (Str.ofString "debug"), .str (Str.ofString "debug") c.k14, .int 0 c.v14⟩,
   ⟨PyData.keyHash w.params (Str.ofString "token"), .str (Str.ofString "token") c.k15, .str tok tt⟩,
   ⟨PyData.keyHash w.params (Str.ofString "filestack"), .str (Str.ofString "filestack") c.k16, .ref c.dq2⟩,
   ⟨PyData.keyHash w.params (Str.ofString "source"), .str (Str.ofString "source") c.k17, .none⟩,
   ⟨PyData.keyHash w.params (Str.ofString "_punctuation_chars"), .str (Str.ofString "_punctuation_chars") c.k18, .str (Str.ofString "") c.v18⟩]
def wcS : Str := Str.ofString "abcdfeghijklmnopqrstuvwxyzABCDEFGHIJKLMNOPQRSTUVWXYZ0123456789_" ++ Str.ofString "ßàáâãäåæçèéêëìíîïðñòóôõöøùúûüýþÿÀÁÂÃÄÅÆÇÈÉÊËÌÍÎÏÐÑÒÓÔÕÖØÙÚÛÜÝÞ"
theorem wcOk : ∀ k ∈ wcS.cps.toList, k ∉ wsL ∧ k ≠ 39 ∧ k ≠ 34 ∧ k ≠ 92 := by decide +kernel
theorem c_linit {w : World} {p : Program} {loose : List Str} {mg mb : Str → Option Value} {A : Around} {s : Shared} {R : Result → Shared → Prop} {lx dlx : Addr} {x : Str} {t : Tok}
  (hh : A.handled = none) (hroom : A.depth + 50 < recursionLimit) (hun : A.units + 500 < cLine) (G : Gnd (Mine.kFrag w.params) p loose mg mb s.heap [(lx, instObj 739 dlx), (dlx, dictOf [] 0)])
  (hne : @LT.lt Nat _ dlx lx) (hx : x.length ≤ 5000)
  (h : ∀ h' tk c a dsx tc tks tt tl, But [lx, dlx] s.heap h' → c.wc = wcS → h'.get? lx = some (instObj 739 dlx) → h'.get? dlx = some (dictOf (lexI w c (.str (Str.ofString "#") tc) (.bool false) (.str (Str.ofString " ") tks) (Str.ofString "") tt 1 tl) 19) →
    h'.get? c.sx = some (instObj 604 dsx) → h'.get? dsx = some (dictOf (sioE w a x (0 : Nat)) 3) → h'.get? c.dq1 = some dqO → h'.get? c.dq2 = some dqO →
    (∀ b o, s.heap.get? b = some o → @LT.lt Nat _ b dsx) → @LT.lt Nat _ dsx c.sx → @LT.lt Nat _ c.sx c.dq1 → @LT.lt Nat _ c.dq1 c.dq2 → R (.ok (.ret .none)) { s with heap := h', toks := tk }) :
  codeAny (model (PySem.Challenge.rw_mj0255_01).prog w) A (.call (.ref 663) ⟨[.ref lx, .str x t], [(Str.ofString "posix", .bool true)]⟩) R s := by
  revert G
  k_fill
  intro G
  walk_at "m enterH"
  intro g L h₁ F N KX T hk hlt
  (try dsimp only)
  walk_at "m go"
  rename Fr _ _ _ _ => F1
  rename News _ _ _ _ => N1
  refine c_sio (p := p) (loose := loose) (mg := mg) (mb := mb) hh ?_ ?_ (KX.keeps F1.keep) (T.keeps F1.keep) hx ?_
  · walk_at "m depth"
  · walk_at "m depth"
  intro sx dsx h2 tk2 a hk2 f1 f2 e1 e2 l1 l2
  have hl2 := l2 _ _ (N1.get (.head _))
  have F2 := F1.keeps hk2
  have N2 := newsCons F1 (newsCons F1 (News.grown N1 hk2) f2 e2) f1 e1
  clear F1 N1
  (try dsimp only)
  walk_at "m go"
  rename Fr _ _ _ _ => F3
  rename News _ _ _ _ => N3
  refine dq_call ?_
  intro d1 h4 f4 e4 hk4 g4
  have hd1 : @LT.lt Nat _ sx d1 := g4 _ _ (N3.get (.head _))
  have F4 := F3.keeps hk4
  have N4 := newsAdd F3 N3 hk4 f4 e4
  have l4 := newsApart N3 f4
  clear F3 N3
  (try dsimp only)
  walk_at "m go"
  rename Fr _ _ _ _ => F5
  rename News _ _ _ _ => N5
  refine dq_call ?_
  intro d2 h6 f6 e6 hk6 g6
  have hd2 : @LT.lt Nat _ d1 d2 := g6 _ _ (N5.get (.head _))
  have F6 := F5.keeps hk6
  have N6 := newsAdd F5 N5 hk6 f6 e6
  have l6 := newsApart N5 f6
  clear F5 N5
  (try dsimp only)
  walk_at "m go"
  rename Fr _ _ _ _ => F9
  rename News _ _ _ _ => N9
  refine h _ _ ⟨sx, d1, d2, _, _, _, _, _, _, _, _, _, _, _, _, _, _, _, _, _, _, _, _, 0, _, _, _, _, _, _, _⟩ a dsx _ _ _ _ (fun b o e n => F9.keep b o (hk b o e n)) rfl (N9.get (.tail _ (.tail _ (.tail _ (.tail _ (.head _)))))) (N9.get (.tail _ (.tail _ (.tail _ (.tail _ (.tail _ (.head _)))))))
    (N9.get (.tail _ (.tail _ (.head _)))) (N9.get (.tail _ (.tail _ (.tail _ (.head _))))) (N9.get (.tail _ (.head _))) (N9.get (.head _)) (fun b o e => l2 b o (hlt b o e).1) l1 hd1 hd2
end
section
open PySem PySem.W PySem.Calls PySem.Spec PyProof.Rows
set_option maxRecDepth 100000
set_option maxHeartbeats 0

theorem frWent {g h h' : Heap} {L : Addr} {m : Str → Option Value} {env : Env} {outer : List Env} {ds : List Addr} (F : Fr g L h m) (W : Went (env :: outer) ds h h') (hf : env.frame = some L) (hg : ∀ b ∈ frs outer, g.get? b = none) (hd : ∀ d ∈ ds, g.get? d = none) : Fr g L h' m := by
  have eL : frs (env :: outer) = L :: frs outer := by simp [frs, hf]
  obtain ⟨o, es, ep, ho, hdat, r⟩ := F.ns
  obtain ⟨sl, h2⟩ := W.2 L o ho (by rw [eL]; exact .head _)
  refine ⟨⟨_, es, ep, h2, hdat, r⟩, fun b o' e => W.1 b o' (F.keep b o' e) (fun q => by rw [hd b q] at e; cases e) fun q => ?_, F.above⟩
  rw [eL] at q
  rcases List.mem_cons.mp q with q | q
  · subst q
    exact absurd (Nat.lt_of_lt_of_le (Heap.lt_size e) F.above) (Nat.lt_irrefl _)
  · rw [hg b q] at e; cases e
theorem frs2 {e1 e2 : Env} {L1 L2 : Addr} (q1 : e1.frame = some L1) (q2 : e2.frame = some L2) : frs [e1, e2] = [L1, L2] := by simp [frs, q1, q2]
theorem nm4 {a b c d e : Nat} (h1 : c < b) (h2 : b < e) (h3 : e < d) (h4 : d < a) : a ∉ [b, c, d, e] := by
  simp only [List.mem_cons, List.not_mem_nil, or_false]
  omega
theorem lexOf {w : World} {g h : Heap} {L lx dlx dsx : Addr} {c : LexC} {v tks tt tl : Tok} {a : SioT} {x : Str} {p1 p2 p3 p4 : Addr × Obj} (N : News g L h [p1, p2, (c.sx, instObj 604 dsx), (dsx, dictOf (sioE w a x (0 : Nat)) 3), (lx, instObj 739 dlx), (dlx, dictOf (lexI w c (.str (Str.ofString "") v) (.bool true) (.str ⟨#[32]⟩ tks) (Str.ofString "") tt 1 tl) 19), p3, p4]) :
    ∃ v, News g L h (lexH w lx dlx { c with v4 := v } (stV (some 32) tks) (Str.ofString "") tt 1 tl ++ sioH w c.sx dsx a x (0 : Nat)) := ⟨v, fun q hq => by
    rcases hq with _ | ⟨_, _ | ⟨_, _ | ⟨_, _ | ⟨_, hq⟩⟩⟩⟩
    · exact N _ (.tail _ (.tail _ (.tail _ (.tail _ (.head _)))))
    · exact N _ (.tail _ (.tail _ (.tail _ (.tail _ (.tail _ (.head _))))))
    · exact N _ (.tail _ (.tail _ (.head _)))
    · exact N _ (.tail _ (.tail _ (.tail _ (.head _))))
    · cases hq⟩
theorem c_split {w : World} {p : Program} {loose : List Str} {mg mb : Str → Option Value} {A : Around} {s : Shared} {Q E : Value → Shared → Prop} {x : Str} {t : Tok} {e1 e2 : Env} {L1 L2 : Addr}
  (hh : A.handled = none) (hroom : A.depth + 100 < recursionLimit) (hun : A.units + 1000 < cLine) (hA : A.frames = some [e1, e2]) (q1 : e1.frame = some L1) (q2 : e2.frame = some L2) (fo : FOk [e1, e2] s.heap) (h21 : @LT.lt Nat _ L2 L1)
  (hK : (Mine.kFrag w.params).In (hideAll s.heap [L1, L2])) (hT : TopRead p loose mg mb (hideAll s.heap [L1, L2])) (hx : x.length ≤ 5000)
  (hQ : ∀ ts D h' tk acc k, toldN (x.length + 2) x.cps.toList (some 32) = some ts → s.heap.get? D = none → Went [e1, e2] [] s.heap h' → h'.get? D = some (listOf (List.toArray acc) k) → StrsAre acc ts → Q (.ref D) { s with heap := h', toks := tk })
  (hE : toldN (x.length + 2) x.cps.toList (some 32) = none → ∀ e h' tk, Flew [e1, e2] [] s.heap e "ValueError" h' → E (.ref e) { s with heap := h', toks := tk }) :
  wpAny (model (PySem.Challenge.rw_mj0255_01).prog w) A (call (.ref 751) [.str x t]) Q E s := by
  have ef := frs2 q1 q2
  obtain ⟨o1, ho1, hd1⟩ := fo.mem (b := L1) (by rw [ef]; exact .head _)
  obtain ⟨o2, ho2, hd2⟩ := fo.mem (b := L2) (by rw [ef]; exact .tail _ (.head _))
  have G : Gnd (Mine.kFrag w.params) p loose mg mb s.heap [(L1, o1), (L2, o2)] := ⟨hK, hT, fun q hq => by
    rcases hq with _ | ⟨_, _ | ⟨_, hq⟩⟩
    · exact ho1
    · exact ho2
    · cases hq⟩
  revert G
  k_fill
  intro G
  refine wpAny_call ?_
  walk_at "m enterH"
  intro g L h₁ F N KX T hk hlt
  (try dsimp only)
  walk_at "m go"
  rename Fr _ _ _ _ => F1
  rename News _ _ _ _ => N1
  change wpAny _ _ (call (.ref 739) [.str x t] [(Str.ofString "posix", .bool true)]) _ _ _
  refine wpAny_call (make_K (fI := 663) F1 N1 (KX.keeps F1.keep) (by k_is) (by k_is) (by k_is) ?_)
  intro lx dlx h2 F2 N2 hl2 hne
  have L1d : @LT.lt Nat _ L1 dlx := hl2 _ (.head _)
  have L2d : @LT.lt Nat _ L2 dlx := hl2 _ (.tail _ (.head _))
  have hne : @LT.lt Nat _ dlx lx := hne
  clear F1 N1
  generalize hAu : (A.deeper _).under _ = Au
  have dA : Au.depth = A.depth + 2 := by rw [← hAu]; rfl
  have uA : Au.units = A.units + 4 := by rw [← hAu]; rfl
  have hA' : Au.handled = none := by rw [← hAu]; exact hh
  have G2 : Gnd (Mine.kFrag w.params) p loose mg mb h2 [(lx, instObj 739 dlx), (dlx, dictOf [] 0)] := gndOf _ F2 N2 KX T (fun q hq => by
    rcases hq with _ | ⟨_, _ | ⟨_, hq⟩⟩
    · exact .head _
    · exact .tail _ (.head _)
    · cases hq)
  refine c_linit (p := p) (loose := loose) (mg := mg) (mb := mb) hA' (by rw [dA]; omega) (by rw [uA]; omega) G2 hne hx ?_
  intro h3 tk3 c a dsx tc tks tt tl hB hwc k1 k2 k3 k4 k5 k6 hall z1 z2 z3
  refine ⟨rfl, ?_⟩
  have hfr : ∀ b, @LE.le Nat _ dsx b → h2.get? b = none := fun b hb => by
    cases q : h2.get? b with
    | none => rfl
    | some o => exact absurd (Nat.lt_of_lt_of_le (hall b o q) hb) (Nat.lt_irrefl _)
  have z0 : @LT.lt Nat _ lx dsx := hall _ _ (N2.get (.head _))
  have F3 := frBut F2 N2 hB (by intro d hd; rcases hd with _ | ⟨_, _ | ⟨_, hd⟩⟩; exact .head _; exact .tail _ (.head _); cases hd)
  have N3 : News g L h3 [(lx, instObj 739 dlx), (dlx, dictOf (lexI w c (.str (Str.ofString "#") tc) (.bool false) (.str (Str.ofString " ") tks) (Str.ofString "") tt 1 tl) 19), (L1, o1), (L2, o2)] := by
    refine newsBut N2 hB ?_
    intro q hq
    rcases hq with _ | ⟨_, _ | ⟨_, _ | ⟨_, _ | ⟨_, hq⟩⟩⟩⟩
    · exact ⟨k1, .head _⟩
    · exact ⟨k2, .tail _ (.head _)⟩
    · exact ⟨hB _ _ (N2.get (.tail _ (.tail _ (.head _)))) (nm2 L1d hne), .tail _ (.tail _ (.head _))⟩
    · exact ⟨hB _ _ (N2.get (.tail _ (.tail _ (.tail _ (.head _))))) (nm2 L2d hne), .tail _ (.tail _ (.tail _ (.head _)))⟩
    · cases hq
  have N4 := newsCons F2 (newsCons F2 (newsCons F2 (newsCons F2 N3 (hfr dsx (Nat.le_refl _)) k4) (hfr c.sx (Nat.le_of_lt z1)) k3) (hfr c.dq1 (Nat.le_of_lt (Nat.lt_trans z1 z2))) k5) (hfr c.dq2 (Nat.le_of_lt (Nat.lt_trans z1 (Nat.lt_trans z2 z3)))) k6
  clear F2 N2 N3 G2
  (try dsimp only)
  walk_at "m go"
  rename Fr _ _ _ _ => F5
  rename News _ _ _ _ => N5
  rw [spE] at N5
  have N6 := lexOf N5
  obtain ⟨v, N6⟩ := N6
  have lL1 : @LT.lt Nat _ L1 L := (hlt _ _ ho1).2
  have lL2 : @LT.lt Nat _ L2 L := (hlt _ _ ho2).2
  have G6 := gndOf _ F5 N6 KX T (fun q hq => hq)
  have b1 := N5.get (.tail _ (.tail _ (.tail _ (.tail _ (.tail _ (.tail _ (.head _)))))))
  have b2 := N5.get (.tail _ (.tail _ (.tail _ (.tail _ (.tail _ (.tail _ (.tail _ (.head _))))))))
  have hgN : ∀ b ∈ [L1, L2], g.get? b = none := fun b hb => by
    rcases hb with _ | ⟨_, _ | ⟨_, hb⟩⟩
    · exact (N5 _ (.tail _ (.tail _ (.tail _ (.tail _ (.tail _ (.tail _ (.head _)))))))).2.2
    · exact (N5 _ (.tail _ (.tail _ (.tail _ (.tail _ (.tail _ (.tail _ (.tail _ (.head _))))))))).2.2
    · cases hb
  have hgD : ∀ b ∈ [lx, dlx, c.sx, dsx], g.get? b = none := fun b hb => by
    have hm : b ∈ (lexH w lx dlx { c with v4 := v } (stV (some 32) tks) (Str.ofString "") tt 1 tl ++ sioH w c.sx dsx a x (0 : Nat)).map (·.1) := by simpa using hb
    obtain ⟨q, hq, rfl⟩ := List.mem_map.mp hm
    exact (N6 q hq).2.2
  have hnL : L ∉ [lx, dlx, c.sx, dsx] := fun hb => by
    have hm : L ∈ (lexH w lx dlx { c with v4 := v } (stV (some 32) tks) (Str.ofString "") tt 1 tl ++ sioH w c.sx dsx a x (0 : Nat)).map (·.1) := by simpa using hb
    obtain ⟨q, hq, e⟩ := List.mem_map.mp hm
    exact (N6 q hq).2.1 e
  have fo5 : FOk [e1, e2] _ := fun env he => by
    obtain ⟨hkd, Lf, o, hLf, ho, hn⟩ := fo env he
    have hm : Lf ∈ [L1, L2] := by rw [← ef]; exact List.mem_filterMap.mpr ⟨env, he, hLf⟩
    rcases hm with _ | ⟨_, _ | ⟨_, hm⟩⟩
    · exact ⟨hkd, L1, o1, hLf, b1, hd1⟩
    · exact ⟨hkd, L2, o2, hLf, b2, hd2⟩
    · cases hm
  have fd5 : ∀ b ∈ frs [e1, e2], b ∉ [lx, dlx, c.sx, dsx] := fun b hb hq => by
    rw [ef] at hb
    have hb' : b = L1 ∨ b = L2 := by simpa using hb
    have hq' : b = lx ∨ b = dlx ∨ b = c.sx ∨ b = dsx := by simpa using hq
    have : @LT.lt Nat _ b dlx := by rcases hb' with rfl | rfl; exact L1d; exact L2d
    rcases hq' with rfl | rfl | rfl | rfl <;> omega
  refine c_list (p := p) (loose := loose) (mg := mg) (mb := mb) (c := { c with v4 := v }) hh ?_ ?_ G6 hne z0 z1 hx (by show ∀ k ∈ c.wc.cps.toList, _; rw [hwc]; exact wcOk) (Around.frames_deeper hA) (fo5.cons (by rfl) (by rfl) F5.ns) ?_ (N5.get (.tail _ (.head _))) (N5.get (.head _)) ?_ ?_ ?_ ?_
  · walk_at "m depth"
  · walk_at "m depth"
  · intro b hb hq
    have eL : ∀ env : Env, env.frame = some L → frs (env :: [e1, e2]) = L :: frs [e1, e2] := fun env h => by simp [frs, h]
    rw [eL _ rfl] at hb
    rcases List.mem_cons.mp hb with rfl | hb
    · exact hnL hq
    · exact fd5 b hb hq
  · exact nm4 hne z0 z1 z2
  · exact nm4 hne z0 z1 (Nat.lt_trans z2 z3)
  · intro ts D h' tk acc' k' ht hD hw hs' hst
    have F7 := frWent F5 hw rfl (by rw [ef]; exact hgN) hgD
    (try dsimp only)
    have hold : ∀ b o, s.heap.get? b = some o → b ∉ [L1, L2] → g.get? b = some o := fun b o e n => hk b o e n
    refine hQ ts D h' tk acc' k' ht ?_ ⟨fun b o e _ nf => ?_, fun b o e hb => ?_⟩ hs' hst
    · cases q : s.heap.get? D with
      | none => rfl
      | some o =>
        exfalso
        by_cases hm : D ∈ [L1, L2]
        · rcases hm with _ | ⟨_, _ | ⟨_, hm⟩⟩
          · rw [b1] at hD; cases hD
          · rw [b2] at hD; cases hD
          · cases hm
        · have := F5.keep _ _ (hold D o q hm)
          rw [this] at hD; cases hD
    · rw [ef] at nf
      exact F7.keep _ _ (hold b o e nf)
    · rw [ef] at hb
      rcases hb with _ | ⟨_, _ | ⟨_, hb⟩⟩
      · rw [ho1] at e; cases e
        exact hw.2 _ _ b1 (by simp [frs, q1])
      · rw [ho2] at e; cases e
        exact hw.2 _ _ b2 (by simp [frs, q2])
      · cases hb
  · intro ht e h' tk fl
    have hk' : ∀ b o, s.heap.get? b = some o → b ∉ [L1, L2] → g.get? b = some o := fun b o e n => hk b o e n
    have eL : ∀ env : Env, env.frame = some L → frs (env :: [e1, e2]) = L :: frs [e1, e2] := fun env h => by simp [frs, h]
    obtain ⟨B, a0, fw, k1, k2⟩ := fl
    refine wpAny_leaves_onW (Around.frames_deeper hA) rfl fw fun h8 fw' us => hE ht e h8 tk ⟨B, a0, fw', fun b o eb _ nf => ?_, fun b o eb hb => ?_⟩
    · rw [ef] at nf
      refine k1 b o (F5.keep _ _ (hk' b o eb nf)) (fun hq => by have := hk' b o eb nf; rw [hgD b hq] at this; cases this) fun hq => ?_
      rw [eL _ rfl, ef] at hq
      rcases List.mem_cons.mp hq with hq | hq
      · have := (hlt b o eb).2
        rw [hq] at this
        exact Nat.lt_irrefl _ this
      · exact nf hq
    · rw [ef] at hb
      rcases hb with _ | ⟨_, _ | ⟨_, hb⟩⟩
      · rw [ho1] at eb; cases eb
        obtain ⟨sl, h2⟩ := k2 _ _ b1 (by simp [frs, q1])
        obtain ⟨sl', h3⟩ := us _ _ h2 hd1
        exact ⟨sl', h3⟩
      · rw [ho2] at eb; cases eb
        obtain ⟨sl, h2⟩ := k2 _ _ b2 (by simp [frs, q2])
        obtain ⟨sl', h3⟩ := us _ _ h2 hd2
        exact ⟨sl', h3⟩
      · cases hb
end
section
open PySem PySem.W PySem.Calls PySem.Spec PyProof.Rows
set_option maxRecDepth 100000
set_option maxHeartbeats 0

section
variable {prog : Program} {w : World} {A₀ : Around} {E : Value → Shared → Prop} {s' : Shared} {g h : Heap} {outer : List Env} {L a e : Addr} {m : Str → Option Value} {name : Str} {scope : Scope} {cd : Value}
  {b₀ : Stmt} {suite : List Stmt} {pos np : Pos} {rest : List ExceptHandler} {Q : Flow → Shared → Prop} {K : Frag} {p : Program} {loose : List Str} {mg mb : Str → Option Value} {x : Str} {T' X : String} {ds : List Addr}
theorem caughtV (hA : A₀.frames = some outer) (fo : FOk (envOf name scope L a cd :: outer) h) (F : Fr g L h m) (fl : Flew (envOf name scope L a cd :: outer) ds h e X s'.heap) (hg : ∀ b ∈ frs outer, g.get? b = none) (hd : ∀ d ∈ ds, g.get? d = none)
    (Xk : K.In g) (T : TopRead p loose mg mb g) (ex : nsIn K mainGlobals x = some none) (hv : bootBuiltins x = some (.type T')) (hn' : x ≠ "__name__")
    (hexc : isSubtype (.type T') (.type "BaseException") = pure true) (hnt : isSubtype (.type ((Manifest.find? T').elim "type" fun y => y.metatype)) (.type "tuple") = pure false) (hsub : isSubtype (.type X) (.type T') = pure true)
    (k : ∀ h', Fr g L h' m → Went (envOf name scope L a cd :: outer) ds h h' →
      wpAny (model prog w) ((A₀.deeper (envOf name scope L a cd)).mark (some (.ref e))) (execs (b₀ :: suite) (envOf name scope L a cd)) Q E { s' with heap := h' })
    (hk : scope.kind = .function := by rfl) (hx : (envOf name scope L a cd).kindOf x = some .globalImplicit := by rfl) (hdb : (x == ("__debug__" : Str)) = false := by decide)
    (hE : PassesOwnAt (model prog w) ((A₀.deeper (envOf name scope L a cd)).mark (some (.ref e))) (A₀.deeper (envOf name scope L a cd)) (envOf name scope L a cd) E := by passes_own) :
    wpAny (model prog w) (A₀.deeper (envOf name scope L a cd)) (noteFrame (.ref e) (envOf name scope L a cd))
      (fun _ s₂ => wpAny (model prog w) (A₀.deeper (envOf name scope L a cd)) (setFlight (.ref e) none) (fun _ s₃ =>
        wpAny (model prog w) (A₀.deeper (envOf name scope L a cd)) (handleBy (.ref e) (envOf name scope L a cd) (.ExceptHandler (some (.Name x np)) none (b₀ :: suite) pos :: rest)) Q E s₃) E s₂) E s' := by
  obtain ⟨B, a0, hfl, k1, k2⟩ := fl
  have go : ∀ h5, Heap.FlyingW B (envOf name scope L a cd :: outer) e (.type X) a0 h5 → s'.heap.UpToSlots h5 → Flew (envOf name scope L a cd :: outer) ds h e X h5 := fun h5 f5 u5 => ⟨B, a0, f5, k1, fun b o eb hb => by
    obtain ⟨sl, h2⟩ := k2 b o eb hb
    obtain ⟨o', ho', hdat⟩ := fo.mem hb
    rw [eb] at ho'
    cases ho'
    obtain ⟨sl', h3⟩ := u5 b _ h2 hdat
    exact ⟨sl', h3⟩⟩
  refine wpAny_looks_onW (Around.frames_deeper hA) rfl hfl fun h₄ hheld₄ hsm₄ => ?_
  refine wpAny_landsW hheld₄ fun h₅ hheld hsm₅' => ?_
  have hsm₅ := hsm₄.trans hsm₅'
  have F₅ := frWent F (go _ hheld hsm₅).went rfl hg hd
  obtain ⟨ob, hob, hobc⟩ := hheld.there
  refine wpAny_handleBy_builtin (X := X) (T := T') (b := true) hexc hnt hsub (name_B F₅ Xk T ex hv hn' ⟨rfl, ⟨ob, hob, hobc⟩, ?_⟩ hk hx hdb)
  refine lands_againW hheld fun h₆ hfl₆ hsm₆ => ?_
  have W6 := (go _ hfl₆ (hsm₅.trans hsm₆)).went
  exact wpAny_passesOwnAt hE (k h₆ (frWent F W6 rfl hg hd) W6)
end
theorem frs1 {e2 : Env} {L2 : Addr} (q2 : e2.frame = some L2) : frs [e2] = [L2] := by simp [frs, q2]
theorem c_told {w : World} {p : Program} {loose : List Str} {mg mb : Str → Option Value} {A : Around} {s : Shared} {Q E : Value → Shared → Prop} {x : Str} {t : Tok} {e2 : Env} {L2 : Addr}
  (hh : A.handled = none) (hroom : A.depth + 110 < recursionLimit) (hun : A.units + 1100 < cLine) (hA : A.frames = some [e2]) (q2 : e2.frame = some L2) (fo : FOk [e2] s.heap)
  (hK : (Mine.kFrag w.params).In (hideAll s.heap [L2])) (hT : TopRead p loose mg mb (hideAll s.heap [L2])) (hx : x.length ≤ 5000)
  (hQ : ∀ ts D h' tk acc k, toldN (x.length + 2) x.cps.toList (some 32) = some ts → s.heap.get? D = none → Went [e2] [] s.heap h' → h'.get? D = some (listOf (List.toArray acc) k) → StrsAre acc ts → Q (.ref D) { s with heap := h', toks := tk })
  (hN : toldN (x.length + 2) x.cps.toList (some 32) = none → ∀ h' tk, Went [e2] [] s.heap h' → Q .none { s with heap := h', toks := tk }) :
  wpAny (model (PySem.Challenge.rw_mj0255_01).prog w) A (call (.ref 809) [.str x t]) Q E s := by
  have ef := frs1 q2
  obtain ⟨o2, ho2, hd2⟩ := fo.mem (b := L2) (by rw [ef]; exact .head _)
  have G : Gnd (Mine.kFrag w.params) p loose mg mb s.heap [(L2, o2)] := ⟨hK, hT, fun q hq => by
    rcases hq with _ | ⟨_, hq⟩
    · exact ho2
    · cases hq⟩
  revert G
  k_fill
  intro G
  refine wpAny_call ?_
  walk_at "m enterH"
  intro g L h₁ F N KX T hk hlt
  (try dsimp only)
  refine wpAny_execs_cons (wpAny_Try_except ?_)
  walk_at "m go"
  have b2 := N.get (.head _)
  have g2 : g.get? L2 = none := (N _ (.head _)).2.2
  have lL2 : @LT.lt Nat _ L2 L := (hlt _ _ ho2).2
  have hgN : ∀ b ∈ frs [e2], g.get? b = none := fun b hb => by
    rw [ef] at hb
    rw [List.mem_singleton.mp hb]; exact g2
  have hold : ∀ b o, s.heap.get? b = some o → b ∉ [L2] → g.get? b = some o := fun b o e n => hk b o e n
  have fo2 : FOk [e2] h₁ := fun env he => by
    obtain ⟨hkd, Lf, o, hLf, ho, hn⟩ := fo env he
    have hm : Lf ∈ [L2] := by rw [← ef]; exact List.mem_filterMap.mpr ⟨env, he, hLf⟩
    rw [List.mem_singleton.mp hm] at hLf
    exact ⟨hkd, L2, o2, hLf, b2, hd2⟩
  have kH : ∀ b o, g.get? b = some o → (hideAll h₁ [L, L2]).get? b = some o := fun b o e => hideAll_get _ (F.keep _ _ e) fun q => by
    rcases q with _ | ⟨_, _ | ⟨_, q⟩⟩
    · exact absurd (Nat.lt_of_lt_of_le (Heap.lt_size e) F.above) (Nat.lt_irrefl _)
    · rw [g2] at e; cases e
    · cases q
  have wentOf : ∀ env : Env, env.frame = some L → ∀ h', Went [env, e2] [] h₁ h' → Went [e2] [] s.heap h' := fun env hf h' W => by
    refine ⟨fun b o e _ nf => ?_, fun b o e hb => ?_⟩
    · rw [ef] at nf
      have eg := hold b o e nf
      refine W.1 b o (F.keep _ _ eg) (fun q => nomatch q) fun q => ?_
      rw [frs2 hf q2] at q
      rcases q with _ | ⟨_, _ | ⟨_, q⟩⟩
      · exact absurd (Nat.lt_of_lt_of_le (Heap.lt_size eg) F.above) (Nat.lt_irrefl _)
      · exact nf (.head _)
      · cases q
    · rw [ef] at hb
      have hb' := List.mem_singleton.mp hb
      subst hb'
      rw [ho2] at e; cases e
      exact W.2 _ _ b2 (by rw [frs2 hf q2]; exact .tail _ (.head _))
  refine c_split (p := p) (loose := loose) (mg := mg) (mb := mb) (L1 := L) (L2 := L2) hh ?_ ?_ (Around.frames_deeper hA) rfl q2 (fo2.cons (by rfl) (by rfl) F.ns) lL2 (KX.keeps kH) (T.keeps kH) hx ?_ ?_
  · walk_at "m depth"
  · walk_at "m depth"
  · intro ts D h' tk acc k ht hD hw hs' hst
    refine hQ ts D h' tk acc k ht ?_ (wentOf _ rfl _ hw) hs' hst
    cases q : s.heap.get? D with
    | none => rfl
    | some o => have := (hlt D o q).1; rw [this] at hD; cases hD
  · intro ht e h' tk fl
    k_dflt (refine' caughtV (T' := "ValueError") hA (fo2.cons (by rfl) (by rfl) F.ns) F fl hgN (fun d hd => nomatch hd) KX T ?k3 ?k4 ?k5 ?k6 ?k7 ?k8 ?_; (case k3 => k_is); (case k4 => boot_by_name); (case k5 => decide); (case k6 => exact PySem.F.isExc_ValueError); (case k7 => exact PySem.F.notTuple_ValueError); (case k8 => (rw [isSubtype_type]; kernel_rfl)); k_whole)
    intro h8 F8 W8
    (try dsimp only)
    walk_at "m go"
    (try dsimp only)
    exact hN ht _ _ (wentOf _ rfl _ W8)
end
section
open PySem PySem.W PySem.Calls PySem.Spec PyProof.Rows
set_option maxRecDepth 100000
set_option maxHeartbeats 0

def joinF (us : List Str) : Str := Txt.join (Str.ofString " ") (us.map quoteF)
theorem kbK (P : Params) : kb_classed (Mine.kFrag P) = true := by kernel_rfl
theorem areOf_strs : ∀ {vs : List Value} {us : List Str}, StrsAre vs us → AreOf ItemKind.str vs us
  | _, _, .nil => .nil
  | _, _, .cons x t r => .cons ⟨t, rfl⟩ (areOf_strs r)
theorem quote_len (u : Str) (h : u.length ≤ 50) : (quoteF u).length ≤ 400 := by
  unfold quoteF
  have e1 : (Str.ofString "'").length = 1 := by decide +kernel
  have e2 : (Str.ofString "''").length = 2 := by decide +kernel
  have e5 : (Str.ofString "'\"'\"'").length = 5 := by decide +kernel
  split
  · omega
  · split
    · rw [Str.length_append, Str.length_append, e1]
      have := len_replace u (Str.ofString "'") (Str.ofString "'\"'\"'")
      rw [e5] at this
      omega
    · omega
theorem sumLe (f : Str → Str) (B : Nat) : ∀ us : List Str, (∀ u ∈ us, (f u).length ≤ B) → ((us.map f).map (·.length)).sum ≤ us.length * B
  | [], _ => by simp
  | u :: r, h => by
    have h1 := h u (.head _)
    have h2 := sumLe f B r fun v hv => h v (.tail _ hv)
    simp only [List.map_cons, List.sum_cons, List.length_cons, Nat.add_mul, Nat.one_mul]
    omega
theorem joinOk (us : List Str) (hlen : us.length ≤ 10) (hus : ∀ u ∈ us, u.length ≤ 50) : JoinOk (Str.ofString " ") (us.map quoteF) = true := by
  refine joinOk_of_weight ?_ (by rw [show (Str.ofString " ").length = 1 from by decide +kernel]; omega)
  have h1 := sumLe quoteF 400 us fun u hu => quote_len u (hus u hu)
  rw [List.length_map]
  have : us.length * 400 ≤ 10 * 400 := Nat.mul_le_mul_right _ hlen
  omega
theorem c_join {w : World} {p : Program} {loose : List Str} {mg mb : Str → Option Value} {A : Around} {s : Shared} {Q E : Value → Shared → Prop} {l P bm : Addr} {ob : Obj} {vs : List Value} {us : List Str}
  (hh : A.handled = none) (hroom : A.depth + 30 < recursionLimit) (hun : A.units + 300 < cLine) (KX : (Mine.kFrag w.params).In s.heap) (T : TopRead p loose mg mb s.heap)
  (hgn : AllBare s.gens) (hI : s.heap.IsCode 757 P #[]) (hTb : s.heap.TableAt 757 P #[]) (hP : P ≠ cStatics) (M : BMod s.heap mainGlobals mg bm ob)
  (hl : s.heap.IsList l vs.toArray) (hi : StrsAre vs us) (hlen : us.length ≤ 10) (hus : ∀ u ∈ us, u.length ≤ 50)
  (h : ∀ t s' more, (∀ b o, b ≠ P → s.heap.get? b = some o → s'.heap.get? b = some o) → s'.heap.IsCode 757 P (#[] ++ more) → s'.heap.TableAt 757 P (#[] ++ more) → AllBare s'.gens → s'.os = s.os → Q (.str (joinF us) t) s') :
  wpAny (model (PySem.Challenge.rw_mj0255_01).prog w) A (call (.ref 758) [.ref l]) Q E s := by
  have hkb := kbK w.params
  revert KX
  k_fill
  intro KX
  refine wpAny_call ?_
  walk_at "m enter0"
  intro h₁ F N
  (try dsimp only)
  walk_at "m go"
  have B : Based s.heap s.heap 757 P #[] := .start hI hTb hP
  obtain ⟨m, F2, hm2⟩ : ∃ m, Fr s.heap s.heap.objs.size h₁ m ∧ m (Str.ofString "split_command") = some (.ref l) := ⟨_, F, rfl⟩
  clear F
  refine GeneratorExp_DF (K := ItemKind.str) (L := s.heap.objs.size) (m := m) (pz := fun _ => true) (d := fun u => .str (quoteF u)) B M rfl rfl hh rfl (by with_unfolding_all rfl) (by decide) rfl rfl rfl (by walk_at "m depth") ?_ (by intro _; with_unfolding_all rfl)
  refine wpAny_Name (wpAny_loadName_local rfl rfl F2.ns hm2 ?_) (by decide)
  refine ⟨l, vs, us, s.heap.objs.size, rfl, stays_list F2.keep hl, ?_, F2, hgn, T.nolimit.keeps F2.keep, Nat.le_refl _, F2.ns.lt, ?_, ?_, ?_⟩
  · exact areOf_strs hi
  · intro c' C A' E' a v u m₂ h1 h2 h3 h4 h5 h6 h7 h8 h9
    exact tests0 ⟨rfl, keepsRefl _⟩
  · intro c' C A' E' a v u m₂ h1 h2 h3 h4 h5 h6 h7 h8 h9 h10
    obtain ⟨tv, rfl⟩ := h5
    have X' := (kb_in_regrown (ps' := _) B KX T.g hkb).keeps h7.keep
    have T' := (LGe.top_regrown h7 T B).keeps h7.keep
    walk1
    refine Name_function_global rfl rfl (loadGlobal_global T'.g (mg_of X' T'.g (v := .ref 766) (by k_is)) ?_) (by decide)
    walk1
    (first | (k_unfold; (try dsimp only)) | walk1)
    refine wpAny_Name (wpAny_loadName_local (s := u) rfl rfl h7.ns h8 ?_) (by decide)
    refine wpAny_mono (Q := fun vs s₂ => vs = [] ∧ s₂ = u) (wpAny_pure ⟨rfl, rfl⟩) (fun vs s₂ hv => ?_) (fun _ _ e => e)
    obtain ⟨rfl, rfl⟩ := hv
    refine ⟨X', ?_⟩
    refine c_quote (p := p) (loose := loose) (mg := mg) (mb := mb) h1 ?_ ?_ X' T' ?_ ?_
    · simp only [depth_deeper] at h2; omega
    · simp only [Around.deeper_units] at h3; omega
    · have := hus a h4; omega
    · intro tq s3 hk3
      exact ⟨.str _ tq, hk3⟩
  · intro c' a s₅ B' F' G' hos hk X
    refine wpAny_mono (Q := fun vs s₂ => vs = [] ∧ s₂ = s₅) (wpAny_pure ⟨rfl, rfl⟩) (fun vs s₂ hv => ?_) (fun _ _ e => e)
    obtain ⟨rfl, rfl⟩ := hv
    have hfl : (us.filter fun _ => true) = us := by simp
    refine join_genD F' G' X (Nat.le_refl _) ?_ ?_ ?_
    · rw [hfl]; exact joinOk us hlen hus
    · intro s' t' F8 G8 hos8 hk8
      rw [hfl]
      (try dsimp only)
      refine h t' s' _ (fun b o hb e => ?_) (B'.codeAt F8) (B'.tabAt F8) G8 (hos8.trans hos)
      have hb' : @LE.le Nat _ b s.heap.objs.size := Nat.le_of_lt (Heap.lt_size e)
      exact hk8 b o hb' (hk b o hb (F2.keep b o e))
    · rw [sizeLine_eq]; omega
end
section
open PySem PySem.W PySem.Calls PySem.Spec PyProof.Rows PySem.StrLaws
set_option maxRecDepth 100000
set_option maxHeartbeats 1000000
abbrev lst (x : Str) : List Nat := x.cps.toList
theorem lst_app (a b : Str) : lst (a ++ b) = lst a ++ lst b := by simp [lst, Str.cps_append]
theorem ofL_lst (x : Str) : ofL (lst x) = x := (strOf x).symm
theorem lst_ofL (l : List Nat) : lst (ofL l) = l := rfl
def bareL (l : List Nat) : Bool := bareF (ofL l)
def safeL : List Nat := safeS.cps.toList
theorem safe_plain : ∀ c ∈ safeL, c ∉ wsL ∧ c ≠ 39 ∧ c ≠ 34 ∧ c ≠ 92 := by unfold safeL; decide +kernel
theorem unsafeB_one (c : Nat) : unsafeB ⟨#[c]⟩ = !decide (c ∈ safeL) := by
  unfold unsafeB
  rw [found_one]
  rfl
theorem bareF_iff (x : Str) : bareF x = true ↔ lst x ≠ [] ∧ ∀ c ∈ lst x, c ∈ safeL := by
  unfold bareF
  have e0 : x = Str.ofString "" ↔ lst x = [] := by
    rw [e0S]
    constructor
    · rintro rfl; rfl
    · intro h; exact strEq (by rw [show x.cps.toList = [] from h])
  by_cases h : x = Str.ofString ""
  · rw [if_pos h]
    simp [e0.mp h]
  · rw [if_neg h, decide_eq_true_iff, List.filter_eq_nil_iff]
    constructor
    · intro hf
      refine ⟨fun q => h (e0.mpr q), fun c hc => ?_⟩
      have := hf ⟨#[c]⟩ (List.mem_map.mpr ⟨c, hc, rfl⟩)
      rw [unsafeB_one] at this
      simpa using this
    · rintro ⟨_, hf⟩ a ha
      obtain ⟨c, hc, rfl⟩ := List.mem_map.mp ha
      rw [unsafeB_one]
      simp [hf c hc]
theorem bareL_ok (w : List Nat) (h : bareL w = true) : w ≠ [] ∧ Plain w := by
  obtain ⟨h1, h2⟩ := (bareF_iff _).mp h
  exact ⟨h1, fun c hc => safe_plain c (h2 c hc)⟩
theorem unsafeC_iff (c : Nat) : unsafeC c = true ↔ c ∉ safeL := by
  by_cases h : c < 256
  · have : ∀ c, c < 256 → (unsafeC c = true ↔ c ∉ safeL) := by unfold safeL; decide +kernel
    exact this c h
  · have h1 : c ∉ safeL := fun q => by
      have : ∀ c ∈ safeL, c < 256 := by unfold safeL; decide +kernel
      exact h (this c q)
    have h2 : unsafeC c = true := by
      unfold unsafeC chB Sre.isWord Sre.isDigit
      simp only [decide_eq_false h, Bool.false_and, Bool.false_or, Bool.not_eq_true', Bool.or_eq_false_iff, Bool.and_eq_false_iff, decide_eq_false_iff_not, beq_eq_false_iff_ne]
      omega
    exact ⟨fun _ => h1, fun _ => h2⟩
/-! ### the texts as lists -/
theorem lst_join_nil (ys : List Str) : lst (Txt.join (Str.ofString "") ys) = (ys.map lst).flatten := by
  show lst (Builtin.Str.glued _ ys) = _
  rw [glued_eq_join]
  induction ys with
  | nil => rfl
  | cons y r ih =>
    cases r with
    | nil => simp [Str.join]
    | cons z r =>
      have e := join_cons_list (Str.ofString "") y z r
      rw [show (Str.ofString "").cps.toList = [] from by decide +kernel, List.nil_append] at e
      show (Str.join (Str.ofString "") (y :: z :: r)).cps.toList = _
      rw [e, List.map_cons, List.flatten_cons]
      congr 1
theorem lst_line (ys : List Str) : lst (Txt.join (Str.ofString " ") ys) = lineL (ys.map lst) := by
  show lst (Builtin.Str.glued _ ys) = _
  rw [glued_eq_join]
  induction ys with
  | nil => rfl
  | cons y r ih =>
    cases r with
    | nil => rfl
    | cons z r =>
      have e := join_cons_list (Str.ofString " ") y z r
      rw [show (Str.ofString " ").cps.toList = [32] from by decide +kernel] at e
      show (Str.join (Str.ofString " ") (y :: z :: r)).cps.toList = _
      rw [e, List.map_cons, lineL_cons _ _ (by simp)]
      rw [show (Str.join (Str.ofString " ") (z :: r)).cps.toList = lst (Str.join (Str.ofString " ") (z :: r)) from rfl, ih]
      rfl
theorem lst_marks (m x : Str) : lst (marksF m x) = escs (lst m) (lst x) := by
  unfold marksF
  rw [lst_join_nil, List.map_map]
  show ((lst x).map (fun n => (⟨#[n]⟩ : Str)) |>.map (lst ∘ markS m)).flatten = (lst x).flatMap (esc (lst m))
  rw [List.map_map, List.flatMap_def]
  congr 1
  apply List.map_congr_left
  intro c _
  show lst (markS m ⟨#[c]⟩) = esc (lst m) c
  unfold markS esc
  have e : Str.ofString "'" = ⟨#[39]⟩ := by decide +kernel
  rw [e]
  by_cases h : c = 39
  · subst h; rw [if_pos rfl, if_pos rfl]
  · rw [if_neg (by simpa using h), if_neg h]
theorem lst_q : lst (Str.ofString "'") = [39] := by decide +kernel
theorem lst_marked (x m : Str) : lst (markedF x m) = markL bareL (lst m) (lst x) := by
  unfold markedF markL bareL
  rw [ofL_lst]
  split
  · rfl
  · rw [lst_app, lst_app, lst_marks, lst_q]; simp
theorem lst_ours : lst (Str.ofString "'\"'\"'") = oursL := by decide +kernel
theorem lst_theirs : lst (Str.ofString "'\\''") = theirsL := by decide +kernel
theorem lst_quote (x : Str) : lst (quoteF x) = markL bareL oursL (lst x) := by
  unfold quoteF markL bareL
  rw [ofL_lst]
  by_cases h : x = Str.ofString ""
  · rw [if_pos h, if_neg]
    · subst h
      rw [show lst (Str.ofString "") = [] from by decide +kernel, show lst (Str.ofString "''") = [39, 39] from by decide +kernel]; rfl
    · rw [bareF_iff, h, show lst (Str.ofString "") = [] from by decide +kernel]
      simp
  · rw [if_neg h]
    have hne : lst x ≠ [] := fun q => h (strEq (by rw [e0S]; exact q))
    by_cases hu : x.cps.toList.any unsafeC = true
    · rw [if_pos hu, if_neg]
      · have hr := (rep_replace (x := x) (y := Str.ofString "'") (z := Str.ofString "'\"'\"'") (by decide +kernel)).det (by rw [show (Str.ofString "'").cps.toList = [39] from lst_q]; simp) (escs oursL (lst x)) (by
          rw [show (Str.ofString "'").cps.toList = [39] from lst_q, show (Str.ofString "'\"'\"'").cps.toList = oursL from lst_ours]
          exact rep_escq _ _ rfl)
        rw [lst_app, lst_app, lst_q, show lst (Txt.replace x (Str.ofString "'") (Str.ofString "'\"'\"'")) = _ from hr]
        simp
      · rw [bareF_iff]
        rintro ⟨_, hs⟩
        obtain ⟨c, hc, hcu⟩ := List.any_eq_true.mp hu
        exact (unsafeC_iff c).mp hcu (hs c hc)
    · rw [if_neg hu, if_pos]
      rw [bareF_iff]
      refine ⟨hne, fun c hc => ?_⟩
      by_cases hs : c ∈ safeL
      · exact hs
      · exact absurd (List.any_eq_true.mpr ⟨c, hc, (unsafeC_iff c).mpr hs⟩) hu
theorem openL_pairs (m : List Nat) : ∀ (k : Nat) (w : List Nat), pairsL w = k → openL m w = (List.replicate k (m ++ [34])).flatten ++ 39 :: (escs m (w.drop (2 * k)) ++ [39])
  | 0, w, h => by
    rw [openL_else (fun r e => by subst e; simp [pairsL] at h)]
    rfl
  | k + 1, w, h => by
    rw [pairsL_step] at h
    split at h
    · rename_i ht
      match w, ht with
      | 34 :: 39 :: r, _ =>
        rw [openL, openL_pairs m k r (by simpa using h), List.replicate_succ, List.flatten_cons]
        rw [show 2 * (k + 1) = 2 * k + 1 + 1 from by omega, List.drop_succ_cons, List.drop_succ_cons]
        simp
      | [], ht => simp at ht
      | [a], ht => simp at ht
      | a :: b :: r, ht =>
        have : a = 34 ∧ b = 39 := by simpa using ht
        obtain ⟨rfl, rfl⟩ := this
        rw [openL, openL_pairs m k r (by simpa using h), List.replicate_succ, List.flatten_cons]
        rw [show 2 * (k + 1) = 2 * k + 1 + 1 from by omega, List.drop_succ_cons, List.drop_succ_cons]
        simp
    · omega
theorem foldl_app (a : Array Nat) : ∀ (n : Nat) (b : Array Nat), ((List.replicate n a).foldl (· ++ ·) b).toList = b.toList ++ (List.replicate n a.toList).flatten
  | 0, b => by simp
  | n + 1, b => by
    rw [List.replicate_succ, List.foldl_cons, foldl_app a n, List.replicate_succ, List.flatten_cons]
    simp
theorem lst_mul (z : Str) (k : Nat) : lst (Txt.mul z (k : Int)) = (List.replicate k (lst z)).flatten := by
  unfold Txt.mul
  split
  · have : k = 0 := by omega
    subst this; rfl
  · split
    · rename_i h1 h2
      rw [Bool.or_eq_true, beq_iff_eq, beq_iff_eq] at h2
      rcases h2 with h2 | h2
      · have : k = 1 := by omega
        subst this; simp
      · have hz : lst z = [] := List.eq_nil_of_length_eq_zero (by simpa [Str.length] using h2)
        rw [hz]; simp
    · show ((List.replicate (k : Int).toNat z.cps).foldl (· ++ ·) #[]).toList = _
      rw [foldl_app]; simp
theorem lst_turned (x m : Str) : lst (turnedF x m) = turnL bareL (lst m) (lst x) := by
  unfold turnedF
  by_cases hp : pairsF x = 0
  · rw [if_pos hp, lst_marked]
    exact (turn_mark (fun r e => by unfold pairsF at hp; rw [show x.cps.toList = _ from e] at hp; simp [pairsL] at hp)).symm
  · rw [if_neg hp]
    unfold turnL
    have h39 : 39 ∈ lst x := by
      have h := pairsL_step (lst x)
      have hp' : pairsL (lst x) ≠ 0 := hp
      rw [h] at hp'
      split at hp'
      · rename_i ht
        have : 39 ∈ (lst x).take 2 := by rw [ht]; simp
        exact List.mem_of_mem_take this
      · exact absurd rfl hp'
    rw [if_neg (fun hb => by have := (bareL_ok _ hb).2 39 h39; omega), openL_pairs (lst m) (pairsF x) (lst x) rfl]
    have e2 : (2 * (pairsF x : Int)) = ((2 * pairsF x : Nat) : Int) := by omega
    rw [lst_app, lst_app, lst_app, lst_mul, lst_marks, lst_app, lst_q, e2, sliceFrom]
    rw [show lst (Str.ofString "\"") = [34] from by decide +kernel]
    simp [lst]
/-! ### the law -/
theorem kind_ours : Builtin.Str.strKind (Str.ofString "'\"'\"'") = 1 := by decide +kernel
theorem kind_theirs : Builtin.Str.strKind (Str.ofString "'\\''") = 1 := by decide +kernel
theorem bare39 (w : List Nat) (h : bareL w = true) : 39 ∉ w := fun q => by have := (bareL_ok w h).2 39 q; omega
theorem lst_joinF (ws : List Str) : lst (joinF ws) = lineL ((ws.map lst).map (markL bareL oursL)) := by
  unfold joinF
  rw [lst_line, List.map_map, List.map_map]
  congr 1
  apply List.map_congr_left
  intro x _
  exact lst_quote x
theorem lst_lineT (ws : List Str) (m : Str) : lst (Txt.join (Str.ofString " ") (ws.map fun x => turnedF x m)) = lineL ((ws.map lst).map (turnL bareL (lst m))) := by
  rw [lst_line, List.map_map, List.map_map]
  congr 1
  apply List.map_congr_left
  intro x _
  exact lst_turned x m
theorem lst_lineM (ws : List Str) (m : Str) : lst (Txt.join (Str.ofString " ") (ws.map fun x => markedF x m)) = lineL ((ws.map lst).map (markL bareL (lst m))) := by
  rw [lst_line, List.map_map, List.map_map]
  congr 1
  apply List.map_congr_left
  intro x _
  exact lst_marked x m
abbrev oursS : Str := Str.ofString "'\"'\"'"
abbrev theirsS : Str := Str.ofString "'\\''"
def otherF (ws : List Str) : Str := Txt.join (Str.ofString " ") (ws.map fun x => markedF x theirsS)
theorem law1 (ws : List Str) (m : Str) : rep1 (joinF ws) oursS m = Txt.join (Str.ofString " ") (ws.map fun x => turnedF x m) := by
  apply strEq
  refine (rep_split_eq (by decide +kernel) kind_ours ?_).trans (lst_lineT ws m).symm
  rw [show (joinF ws).cps.toList = _ from lst_joinF ws, show oursS.cps.toList = oursL from lst_ours]
  exact line_turn bare39 _ _
theorem law2 (ws : List Str) : rep1 (otherF ws) theirsS oursS = joinF ws := by
  apply strEq
  refine (rep_split_eq (by decide +kernel) kind_theirs ?_).trans (lst_joinF ws).symm
  rw [show (otherF ws).cps.toList = _ from lst_lineM ws theirsS, show theirsS.cps.toList = theirsL from lst_theirs, show oursS.cps.toList = oursL from lst_ours, lst_theirs]
  exact line_other bare39 _
theorem law3 (ws : List Str) : rep1 (rep1 (joinF ws) oursS theirsS) theirsS oursS = joinF ws := by
  rw [law1]
  apply strEq
  refine (rep_split_eq (by decide +kernel) kind_theirs ?_).trans (lst_joinF ws).symm
  rw [show (Txt.join (Str.ofString " ") (ws.map fun x => turnedF x theirsS)).cps.toList = _ from lst_lineT ws theirsS, show theirsS.cps.toList = theirsL from lst_theirs, show oursS.cps.toList = oursL from lst_ours, lst_theirs]
  exact line_back bare39 _
theorem line_long : ∀ ws : List (List Nat), ws.length ≤ (lineL ws).length + 1
  | [] => by simp
  | [x] => by simp
  | x :: y :: r => by
    have := line_long (y :: r)
    rw [lineL_cons _ _ (by simp)]
    simp at this ⊢
    omega
theorem map_ofL (ws : List Str) : (ws.map lst).map ofL = ws := by
  rw [List.map_map]
  conv => rhs; rw [← List.map_id ws]
  apply List.map_congr_left
  intro x _
  exact ofL_lst x
theorem law4 (ws : List Str) : toldN ((otherF ws).length + 2) (otherF ws).cps.toList (some 32) = some ws := by
  have e : (otherF ws).cps.toList = lineL ((ws.map lst).map (markL bareL theirsL)) := by
    rw [show (otherF ws).cps.toList = _ from lst_lineM ws theirsS, lst_theirs]
  have hl : (otherF ws).length = (lineL ((ws.map lst).map (markL bareL theirsL))).length := by rw [← e]; rfl
  rw [e, hl]
  have := line_long ((ws.map lst).map (markL bareL theirsL))
  rw [List.length_map] at this
  rw [told_line bareL_ok _ _ (by omega), map_ofL]
theorem slice2 (x : Str) : Txt.slice x none (some 2) = Str.ofString "\"'" ↔ ∃ r, lst x = 34 :: 39 :: r := by
  have := sliceTo x 2
  rw [show ((2 : Nat) : Int) = 2 from rfl] at this
  rw [this, ofDq]
  constructor
  · intro h
    have ht : (lst x).take 2 = [34, 39] := by
      have := congrArg (fun s : Str => s.cps.toList) h
      simpa using this
    match hx : lst x, ht with
    | [], ht => simp at ht
    | [a], ht => simp at ht
    | a :: b :: r, ht =>
      have : a = 34 ∧ b = 39 := by simpa using ht
      obtain ⟨rfl, rfl⟩ := this
      exact ⟨r, rfl⟩
  · rintro ⟨r, h⟩
    rw [show x.cps.toList = _ from h]
    rfl
def fitsB (ws : List Str) : Bool := decide ((ws.filter fun x => Txt.slice x none (some 2) == Str.ofString "\"'") = [])
theorem law5 (ws : List Str) : decide (toldN ((rep1 (joinF ws) oursS theirsS).length + 2) (rep1 (joinF ws) oursS theirsS).cps.toList (some 32) = some ws) = fitsB ws := by
  rw [law1]
  generalize hL : Txt.join (Str.ofString " ") (ws.map fun x => turnedF x theirsS) = L
  have e : L.cps.toList = lineL ((ws.map lst).map (turnL bareL theirsL)) := by
    rw [← hL, show (Txt.join (Str.ofString " ") (ws.map fun x => turnedF x theirsS)).cps.toList = _ from lst_lineT ws theirsS, lst_theirs]
  have hl : L.length = (lineL ((ws.map lst).map (turnL bareL theirsL))).length := by rw [← e]; rfl
  have hlong := line_long ((ws.map lst).map (turnL bareL theirsL))
  rw [List.length_map] at hlong
  unfold fitsB
  congr 1
  rw [e, hl]
  apply propext
  rw [List.filter_eq_nil_iff]
  constructor
  · intro ht x hx hq
    have hq' := (slice2 x).mp (by simpa using hq)
    refine told_bad bareL_ok (ws.map lst) ((lineL ((ws.map lst).map (turnL bareL theirsL))).length + 2) (by omega) ⟨lst x, List.mem_map_of_mem hx, hq'⟩ ?_
    rw [map_ofL]; exact ht
  · intro hn
    have em : (ws.map lst).map (turnL bareL theirsL) = (ws.map lst).map (markL bareL theirsL) := by
      rw [List.map_map, List.map_map]
      apply List.map_congr_left
      intro x hx
      exact turn_mark fun r er => hn x hx (by simpa using (slice2 x).mpr ⟨r, er⟩)
    rw [em] at hlong ⊢
    rw [told_line bareL_ok _ _ (by omega), map_ofL]
end
section
open PySem PySem.W PySem.Calls PySem.Spec PyProof.Rows
set_option maxRecDepth 100000
set_option maxHeartbeats 0
theorem intsAre_of_carried {α : Type} {f : α → Int} : ∀ {vs : List Value} {as : List α}, CarriedAll vs (as.map fun a => PyData.int (f a)) → IntsAre vs (as.map f)
  | _, [], .nil => .nil
  | _, _ :: _, .cons (.int _ t) r => .cons _ t (intsAre_of_carried r)
def IntsSrc (prog : Program) (w : World) (A : Around) (env : Env) (scope : Scope) (cl : List (Str × Addr)) (elt : Expr) (x : Str) (f : Int → Int) (Q : Value → Shared → Prop) (xv : Value) (s₁ : Shared) : Prop :=
  ∃ ax vs as, xv = .ref ax ∧ s₁.heap.IsList ax vs.toArray ∧ AreOf ItemKind.int vs as ∧ as.length ≤ sizeLine ∧
      (∀ C a t s₂ m₂ E', a ∈ as → s₂.heap.Ns C m₂ → m₂ x = some (.int a t) → (∀ b o, s₁.heap.get? b = some o → s₂.heap.get? b = some o) → s₁.toks ≤ s₂.toks →
        wpAny (model prog w) A (eval elt (compEnvC scope cl C env)) (fun r s₃ => (∃ t', r = .int (f a) t') ∧ Keeps s₂ s₃) E' s₂) ∧
      (∀ D (ys : List Value) h' tk, (∀ b o, s₁.heap.get? b = some o → h'.get? b = some o) → s₁.heap.get? D = none → h'.PlainList D ys.toArray → IntsAre ys (as.map f) → Q (.ref D) { s₁ with heap := h', toks := tk })
def RangeSrc (prog : Program) (w : World) (A : Around) (env : Env) (scope : Scope) (cl : List (Str × Addr)) (elt : Expr) (x : Str) (f : Nat → Str) (Q : Value → Shared → Prop) (xv : Value) (s₁ : Shared) : Prop :=
  ∃ r, ∃ n : Nat, ∃ t u v, xv = .ref r ∧ n ≤ 3 ∧ IsRange s₁.heap r 0 (n : Int) 1 t u v ∧
      (∀ C (k : Nat) t s₂ m₂ E', k < n → s₂.heap.Ns C m₂ → m₂ x = some (.int (k : Int) t) → (∀ b o, s₁.heap.get? b = some o → s₂.heap.get? b = some o) → s₁.toks ≤ s₂.toks →
        wpAny (model prog w) A (eval elt (compEnvC scope cl C env)) (fun r s₃ => (∃ t', r = .str (f k) t') ∧ Keeps s₂ s₃) E' s₂) ∧
      (∀ D (ys : List Value) h' tk, (∀ b o, s₁.heap.get? b = some o → h'.get? b = some o) → s₁.heap.get? D = none → h'.PlainList D ys.toArray → StrsAre ys ((List.range n).map f) → Q (.ref D) { s₁ with heap := h', toks := tk })
section
variable {prog : Program} {w : World} {A : Around} {E : Value → Shared → Prop} {s : Shared} {env : Env}
theorem comp_ints {elt iter : Expr} {x : Str} {px : Pos} {scope : Scope} {cl : List (Str × Addr)} {pos : Pos} {Q : Value → Shared → Prop} (f : Int → Int)
    (hh : A.handled = none) (hclos : closureFor scope env = pure cl) (hcell : ∀ y ∈ scope.names, y.2 ≠ .cell) (hkind : scope.kind = .function)
    (hnames : ∀ y ∈ scope.names, y.2 = .local → scope.names.lookup y.1 = some .local) (hx : scope.names.lookup x = some .local)
    (h : wpAny (model prog w) A (eval iter env) (IntsSrc prog w A env scope cl elt x f Q) E s)
    (hs : ∀ x, foldedSetIterable iter env x = pure x) :
    wpAny (model prog w) A (eval (.ListComp elt [⟨.Name x px, iter, [], 0⟩] scope pos) env) Q E s := by
  refine wpAny_ListComp_free (ItemKind.int.lift fun _ => true) (fun v r => ∃ a, ItemKind.int.is a v ∧ Carried r (PyData.int (f a))) hclos hcell hkind hnames hx (wpAny_mono h (fun xv s₁ h₁ => ?_) fun _ _ e => e) hs
  obtain ⟨ax, vs, as, rfl, hl, hi, hsz, helt, hQ⟩ := h₁
  have hlt : ax < s₁.heap.objs.size := by obtain ⟨_, e, _⟩ := hl; exact Heap.lt_size e
  have up : ∀ (h' : Heap), (∀ b o, b ∉ [s₁.heap.objs.size] → (s₁.heap.push { cls := .type "list_iterator", data := .fields #[.ref ax, .int 0 0] }).get? b = some o → h'.get? b = some o) → ∀ b o, s₁.heap.get? b = some o → h'.get? b = some o :=
    fun s₃ hk b o e => hk b o (fun hm => by rcases List.mem_cons.mp hm with rfl | hm; exact Nat.lt_irrefl _ (Heap.lt_size e); cases hm) (Heap.get?_push_of_some _ e)
  refine wpAny_pyIter_list hl ⟨s₁.heap.objs.size, [s₁.heap.objs.size, ax], [s₁.heap.objs.size], vs.toArray.size, _, _, rfl, Walks.list hh _ _ (Nat.ne_of_lt hlt) vs.toArray, (by rw [List.size_toArray, hi.length]; exact hsz), ⟨⟨_, Heap.get?_push_size _ rfl, rfl, rfl⟩, hl.push _⟩, ?_, ⟨?_, ?_⟩, ?_⟩
  · intro b hb
    show b < (s₁.heap.push _).objs.size
    rw [Heap.size_push]
    rcases List.mem_cons.mp hb with rfl | hb
    · exact Nat.lt_succ_self _
    · rcases List.mem_cons.mp hb with rfl | hb
      · exact Nat.lt_succ_of_lt hlt
      · cases hb
  · intro C i v s₃ m₃ E' hC hP hn hm hk htk
    obtain ⟨a, hmem, ha⟩ := hi.memD v (by simpa using Array.mem_of_getElem? hP)
    rw [ItemKind.lift_is ha]
    exact tests0 ⟨rfl, keepsRefl _⟩
  · intro C i v s₃ m₃ E' hC hP hp hn hm hk htk
    obtain ⟨a, hmem, ha⟩ := hi.memD v (by simpa using Array.mem_of_getElem? hP)
    obtain ⟨u, rfl⟩ := ha
    refine wpAny_mono (helt C a u s₃ m₃ E' hmem hn hm (up _ hk) htk) (fun y s₄ h₄ => ⟨⟨a, ⟨u, rfl⟩, ?_⟩, h₄.2⟩) fun _ _ e => e
    obtain ⟨⟨t', rfl⟩, _⟩ := h₄
    exact .int _ t'
  · intro D h' tk ys vs' hnew hlD hplD hlen hP hF hk
    have e : vs' = vs := by simpa using list_of_places hlen hP
    subst e
    have hp := hi.paired (fun _ => true) (fun a => PyData.int (f a)) _ hF
    rw [show as.filter (fun _ => true) = as from by simp] at hp
    refine hQ D ys.toList h' tk (up h' hk) ?_ (by rw [Array.toArray_toList]; exact hplD) (intsAre_of_carried hp)
    cases e : s₁.heap.get? D with
    | none => rfl
    | some o' => rw [Heap.get?_push_of_some _ e] at hnew; cases hnew
theorem walksB {prog : Program} {w : World} {A : Around} {I : Addr} {fp wr : List Addr} {n : Nat} {P : Nat → Value → Prop} {St : Nat → Heap → Prop} (W : Walks prog w A I fp wr n P St) : Walks prog w A I fp wr n (fun i v => i < n ∧ P i v) St where
  sub := W.sub
  frame := W.frame
  item := fun i s Q E hi st hQ => W.item i s Q E hi st fun v h' tk hP => hQ v h' tk ⟨hi, hP⟩
  done := W.done
  self := W.self
theorem paired_range {f : Nat → Str} : ∀ (vs ys : List Value) (k : Nat), (∀ (j : Nat) (v : Value), vs[j]? = some v → ∃ t, v = .int ((k + j : Nat) : Int) t) → Paired (fun v r => ∃ k : Nat, ItemKind.int.is (k : Int) v ∧ Carried r (PyData.str (f k))) vs ys → StrsAre ys ((List.range' k vs.length).map f)
  | [], _, k, _, .nil => .nil
  | v :: vs, y :: ys, k, hv, .cons h1 h2 => by
    obtain ⟨t, e⟩ := hv 0 v rfl
    obtain ⟨k', ⟨t', e'⟩, hc⟩ := h1
    rw [e] at e'
    have ek : ((k + 0 : Nat) : Int) = (k' : Int) := by injection e'
    have ek' : k' = k := by omega
    subst ek'
    rw [List.length_cons, List.range'_succ, List.map_cons]
    cases hc with
    | str _ u => exact .cons _ u (paired_range vs ys (k' + 1) (fun j v hj => by
        obtain ⟨t, e⟩ := hv (j + 1) v (by simpa using hj)
        exact ⟨t, by rw [e, show k' + (j + 1) = k' + 1 + j from by omega]⟩) h2)
theorem rangeOk (n : Nat) (h : n ≤ 3) : Builtin.Range.small 0 (n : Int) 1 = true ∧ Builtin.Range.rangeSize 0 (n : Int) 1 = (n : Int) := by
  have : n = 0 ∨ n = 1 ∨ n = 2 ∨ n = 3 := by omega
  rcases this with rfl | rfl | rfl | rfl <;> decide
theorem comp_range {elt iter : Expr} {x : Str} {px : Pos} {scope : Scope} {cl : List (Str × Addr)} {pos : Pos} {Q : Value → Shared → Prop} (f : Nat → Str)
    (hh : A.handled = none) (hclos : closureFor scope env = pure cl) (hcell : ∀ y ∈ scope.names, y.2 ≠ .cell) (hkind : scope.kind = .function)
    (hnames : ∀ y ∈ scope.names, y.2 = .local → scope.names.lookup y.1 = some .local) (hx : scope.names.lookup x = some .local)
    (h : wpAny (model prog w) A (eval iter env) (RangeSrc prog w A env scope cl elt x f Q) E s)
    (hs : ∀ x, foldedSetIterable iter env x = pure x) :
    wpAny (model prog w) A (eval (.ListComp elt [⟨.Name x px, iter, [], 0⟩] scope pos) env) Q E s := by
  refine wpAny_ListComp_free (fun _ => true) (fun v r => ∃ k : Nat, ItemKind.int.is (k : Int) v ∧ Carried r (PyData.str (f k))) hclos hcell hkind hnames hx (wpAny_mono h (fun xv s₁ h₁ => ?_) fun _ _ e => e) hs
  obtain ⟨r, n, t, u, v, rfl, hn3, hr, helt, hQ⟩ := h₁
  obtain ⟨hsm, hsz⟩ := rangeOk n hn3
  have up : ∀ (o : Obj) (h' : Heap), (∀ b o', b ∉ [s₁.heap.objs.size] → (s₁.heap.push o).get? b = some o' → h'.get? b = some o') → ∀ b o', s₁.heap.get? b = some o' → h'.get? b = some o' :=
    fun o h' hk b o' e => hk b o' (fun hm => by rcases List.mem_cons.mp hm with rfl | hm; exact Nat.lt_irrefl _ (Heap.lt_size e); cases hm) (Heap.get?_push_of_some _ e)
  refine wpAny_pyIter_range hr hsm ?_
  rw [hsz]
  refine ⟨s₁.heap.objs.size, [s₁.heap.objs.size], [s₁.heap.objs.size], n, _, _, rfl, walksB (Walks.range hh _ 0 1 n), (by rw [sizeLine_eq]; omega), ?_, ?_, ⟨?_, ?_⟩, ?_⟩
  · show IsRangeIter _ _ (0 + ((0 : Nat) : Int) * 1) ((n : Int) - ((0 : Nat) : Int)) 1
    have e1 : (0 + ((0 : Nat) : Int) * 1) = 0 := by decide
    have e2 : (n : Int) - ((0 : Nat) : Int) = n := by omega
    rw [e1, e2]
    exact Heap.get?_push_size _ rfl
  · intro b hb
    show b < (s₁.heap.push _).objs.size
    rw [Heap.size_push, List.mem_singleton.mp hb]
    exact Nat.lt_succ_self _
  · intro C i v s₃ m₃ E' hC hP hn hm hk htk
    exact tests0 ⟨rfl, keepsRefl _⟩
  · intro C i v s₃ m₃ E' hC hP hp hn hm hk htk
    obtain ⟨hi, u, rfl⟩ := hP
    have ei : (0 + (i : Int) * 1) = (i : Int) := by omega
    rw [ei] at hm
    refine wpAny_mono (helt C i u s₃ m₃ E' hi hn hm (up _ _ hk) htk) (fun y s₄ h₄ => ⟨⟨i, ⟨u, by rw [ei]⟩, ?_⟩, h₄.2⟩) fun _ _ e => e
    obtain ⟨⟨t', rfl⟩, _⟩ := h₄
    exact .str _ t'
  · intro D h' tk ys vs' hnew hlD hplD hlen hP hF hk
    rw [show vs'.filter (fun _ => true) = vs' from by simp] at hF
    have := paired_range vs' ys.toList 0 (fun j v hj => by
      obtain ⟨_, t, e⟩ := hP j v hj
      exact ⟨t, by rw [e, show (0 + (j : Int) * 1) = ((0 + j : Nat) : Int) from by omega]⟩) hF
    rw [hlen, ← List.range_eq_range'] at this
    refine hQ D ys.toList h' tk (up _ h' hk) ?_ (by rw [Array.toArray_toList]; exact hplD) this
    cases e : s₁.heap.get? D with
    | none => rfl
    | some o' => rw [Heap.get?_push_of_some _ e] at hnew; cases hnew
end
end
section
open PySem PySem.W PySem.Calls PySem.Spec PyProof.Rows
set_option maxRecDepth 100000
set_option maxHeartbeats 0
def MPost (g : Heap) (L : Addr) (s : Shared) (m : Str → Option Value) (pI pA p5 : Addr × Obj) (cM : Addr) (pT pN : Addr × Obj) (f : Flow) (s₃ : Shared) : Prop :=
  f = .next ∧ ∃ h' tk' om' dv', om'.data = Data.cell dv' ∧ s₃ = { s with heap := h', toks := tk' } ∧ Fr g L h' m ∧ News g L h' [pI, pA, p5, (cM, om'), pT, pN]
def MSrc (g : Heap) (L : Addr) (s : Shared) (m : Str → Option Value) (P : Str → Prop) (p5 : Addr × Obj) (cM : Addr) (pT pN : Addr × Obj) (xv : Value) (s₁ : Shared) : Prop :=
  ∃ ax vs us n om h1 tk1 dv, om.data = Data.cell dv ∧ s₁ = { s with heap := h1, toks := tk1 } ∧ xv = .ref ax ∧ StrsAre vs us ∧ Fr g L h1 m ∧ News g L h1 [(ax, listOf (List.toArray vs) n), p5, (cM, om), pT, pN] ∧ ax ≠ cM ∧ ∀ u ∈ us, P u
theorem strsGet : ∀ {vs : List Value} {us : List Str}, StrsAre vs us → ∀ {k : Nat} {v : Value}, vs[k]? = some v → ∃ u t, u ∈ us ∧ v = .str u t
  | _, _, .nil, k, v, h => by simp at h
  | _, _, .cons x t r, 0, v, h => ⟨x, t, .head _, by simpa using h.symm⟩
  | _, _, .cons x t r, k + 1, v, h => by
    obtain ⟨u, t', hm, e⟩ := strsGet r (k := k) (by simpa using h)
    exact ⟨u, t', .tail _ hm, e⟩
theorem frBut1 {g h h' : Heap} {L I : Addr} {m : Str → Option Value} (F : Fr g L h m) (hI : g.get? I = none) (hL : I ≠ L) (hk : ∀ b o, b ∉ [I] → h.get? b = some o → h'.get? b = some o) : Fr g L h' m := by
  obtain ⟨oL, es, ep, ho, r⟩ := F.ns
  refine ⟨⟨oL, es, ep, hk _ _ (fun q => hL (List.mem_singleton.mp q).symm) ho, r⟩, fun b o e => hk b o (fun q => ?_) (F.keep b o e), F.above⟩
  rw [List.mem_singleton.mp q, hI] at e
  cases e
section
variable {prog : Program} {w : World} {A : Around} {E : Value → Shared → Prop} {s : Shared} {env : Env} {g : Heap} {L : Addr} {m : Str → Option Value}
theorem for_marks {v : Str} {px pos : Pos} {iter : Expr} {body : List Stmt} {Q : Flow → Shared → Prop} {p5 pT pN : Addr × Obj} {cM : Addr} {om0 : Obj} (P : Str → Prop) (hh : A.handled = none) (_F : Fr g L s.heap m) (_N : News g L s.heap [p5, (cM, om0), pT, pN])
    (h : wpAny (model prog w) A (eval iter env) (MSrc g L s m P p5 cM pT pN) E s)
    (turn : ∀ u t h tk om pI pA dv, om.data = Data.cell dv → P u → Fr g L h m → News g L h [pI, pA, p5, (cM, om), pT, pN] → pI.1 ≠ cM → pA.1 ≠ cM →
      wpAny (model prog w) A (storeName env v (.str u t)) (fun _ s₂ => wpAny (model prog w) A (execs body env) (MPost g L s m pI pA p5 cM pT pN) E s₂) E { s with heap := h, toks := tk })
    (fin : ∀ h tk om, Fr g L h m → News g L h [p5, (cM, om), pT, pN] → Q .next { s with heap := h, toks := tk })
    (hs : ∀ x, foldedSetIterable iter env x = pure x := by intro _; rfl) (hE : PassesOwn (model prog w) A env E := by passes_own) :
    wpAny (model prog w) A (exec (.For (.Name v px) iter body [] pos) env) Q E s := by
  refine wpAny_For (wpAny_mono h (fun xv s₁ h₁ => ?_) fun _ _ z => z) hs
  obtain ⟨ax, vs, us, n, om, h1, tk1, dv0, hdv0, rfl, rfl, hus, F, N, hac, hP⟩ := h₁
  have hl : h1.IsList ax vs.toArray := News.isList N (.head _)
  have hlt : ax < h1.objs.size := Heap.lt_size (N.get (.head _))
  refine wpAny_pyIter_list hl ?_
  have hI0 : ∀ q ∈ [(ax, listOf (List.toArray vs) n), p5, (cM, om), pT, pN], q.1 ≠ h1.objs.size := fun q hq => Nat.ne_of_lt (Heap.lt_size (N q hq).1)
  have hgI : g.get? h1.objs.size = none := by
    cases e : g.get? h1.objs.size with
    | none => rfl
    | some o => exact absurd (Heap.lt_size (F.keep _ _ e)) (Nat.lt_irrefl _)
  have hLI : h1.objs.size ≠ L := fun e => Nat.lt_irrefl _ (e ▸ F.ns.lt)
  generalize hIa : h1.objs.size = I at *
  have W := Walks.list (prog := prog) (w := w) (A := A) hh I ax (Nat.ne_of_lt hlt) vs.toArray
  refine codeAny_forLoop (R := fun r s' => match r with | .ok f => Q f s' | .error e => cameBackBy (model prog w) A env E e s')
    (fun k s' => ∃ i om h tk oI dv, om.data = Data.cell dv ∧ i + k = vs.length ∧ s' = { s with heap := h, toks := tk } ∧ Fr g L h m ∧ News g L h [(I, oI), (ax, listOf (List.toArray vs) n), p5, (cM, om), pT, pN] ∧ h.IsListIter I ax i) ?_ vs.length ?_
  · rintro k s' ⟨i, om, h, tk, oI, dv, hdv, hik, rfl, F1, N1, hit⟩
    refine wpAny_passesOwn hE ?_
    have hne : ∀ q ∈ [(ax, listOf (List.toArray vs) n), p5, (cM, om), pT, pN], q.1 ∉ [I] := fun q hq e => by
      have e' := List.mem_singleton.mp e
      rcases hq with _ | ⟨_, _ | ⟨_, _ | ⟨_, _ | ⟨_, _ | ⟨_, hq⟩⟩⟩⟩⟩
      · exact hI0 _ (.head _) e'
      · exact hI0 _ (.tail _ (.head _)) e'
      · exact hI0 _ (.tail _ (.tail _ (.head _))) e'
      · exact hI0 _ (.tail _ (.tail _ (.tail _ (.head _)))) e'
      · exact hI0 _ (.tail _ (.tail _ (.tail _ (.tail _ (.head _))))) e'
      · cases hq
    have newsOf : ∀ h', (∀ b o, b ∉ [I] → h.get? b = some o → h'.get? b = some o) → News g L h' [(ax, listOf (List.toArray vs) n), p5, (cM, om), pT, pN] := fun h' hk q hq => ⟨hk _ _ (hne q hq) (N1 q (.tail _ hq)).1, (N1 q (.tail _ hq)).2.1, (N1 q (.tail _ hq)).2.2⟩
    by_cases hi : i < vs.length
    · refine W.item i _ _ _ (by simpa using hi) ⟨hit, News.isList N1 (.tail _ (.head _))⟩ fun v' h' tk' hv st' hk => ?_
      obtain ⟨u, t, hu, rfl⟩ := strsGet hus (by simpa using hv)
      obtain ⟨oI', hoI', rI⟩ := st'.1
      have F2 := frBut1 F1 hgI hLI hk
      have N2 : News g L h' [(I, oI'), (ax, listOf (List.toArray vs) n), p5, (cM, om), pT, pN] := fun q hq => by
        rcases List.mem_cons.mp hq with rfl | hq
        · exact ⟨hoI', hLI, hgI⟩
        · exact newsOf h' hk q hq
      refine wpAny_passesOwn hE (wpAny_assign_Name (wpAny_mono (turn u t h' tk' om (I, oI') (ax, listOf (List.toArray vs) n) dv hdv (hP u hu) F2 N2 (fun e => hI0 _ (.tail _ (.tail _ (.head _))) e.symm) hac) (fun _ s₂ h₂ => ?_) fun _ _ z => z))
      refine wpAny_passesOwn hE (wpAny_mono h₂ (fun f s₃ h₃ => ?_) fun _ _ z => z)
      obtain ⟨rfl, h'', tk'', om'', dv'', hdv'', rfl, F3, N3⟩ := h₃
      exact ⟨k - 1, by omega, i + 1, om'', h'', tk'', oI', dv'', hdv'', by omega, rfl, F3, N3, ⟨oI', N3.get (.head _), rI⟩⟩
    · have hi' : i = vs.length := by omega
      subst hi'
      refine W.done _ _ _ ⟨by simpa using hit, News.isList N1 (.tail _ (.head _))⟩ fun h' tk' hk => ?_
      exact wpAny_execs_nil (fin h' tk' om (frBut1 F1 hgI hLI hk) fun q hq => newsOf h' hk q (.tail _ hq))
  · refine ⟨0, om, _, tk1, { cls := .type "list_iterator", data := .fields #[.ref ax, .int 0 0] }, dv0, hdv0, Nat.zero_add _, rfl, F.push _, fun q hq => ?_, ⟨{ cls := .type "list_iterator", data := .fields #[.ref ax, .int 0 0] }, ?_, rfl, rfl⟩⟩
    · rcases List.mem_cons.mp hq with rfl | hq
      · exact ⟨by rw [← hIa]; exact Heap.get?_push_size _ rfl, hLI, hgI⟩
      · exact ⟨Heap.get?_push_of_some _ (N q hq).1, (N q hq).2.1, (N q hq).2.2⟩
    · rw [← hIa]; exact Heap.get?_push_size _ rfl
end
end
section
open PySem PySem.W PySem.Calls PySem.Spec PyProof.Rows
set_option maxRecDepth 100000
set_option maxHeartbeats 0

theorem join_rec : ∃ d, (recsOf Mine.vw).find? (fun e => e.name == Str.ofString "join") = some d := Option.isSome_iff_exists.mp (by decide +kernel)
theorem fnK {K : Frag} {f : Addr} {cd : Value} {oc : Value} {od : Option Addr} {fd : FuncData} {sl : Array (Option Value)} (h : K.lookup f = some ⟨oc, od, .func fd, sl⟩) (h2 : fd.code = cd) : ∃ oc od fd sl, K.lookup f = some ⟨oc, od, .func fd, sl⟩ ∧ fd.code = cd := ⟨oc, od, fd, sl, h, h2⟩
theorem join_obj {w : World} {h : Heap} (KX : (Mine.kFrag w.params).In h) (hw : PySem.Challenge.rw_mj0255_01 = PySem.Challenge.rw_mj0255_01) :
    (∃ oc od fd sl, (Mine.kFrag w.params).lookup 758 = some ⟨oc, od, .func fd, sl⟩ ∧ fd.code = .ref 757) ∧ nsIn (Mine.kFrag w.params) mainGlobals (Str.ofString "join") = some (some (.ref 758)) ∧ nsIn (Mine.kFrag w.params) mainGlobals (Str.ofString "law") = some (some (.ref 814)) := by
  revert KX hw
  k_fill
  intro KX _
  refine ⟨?_, by k_is, by k_is⟩
  k_dflt (refine' fnK ?k ?k1; (case k => k_is); (case k1 => rfl))
theorem join_based {w : World} {h : Heap} {loose : List Str} {mean : ExcName → Option Value} {mg mb : Str → Option Value} (KX : (Mine.kFrag w.params).In h) (Tp : Top Mine.vw loose mean mg mb h) (G : h.Ns mainGlobals mg) : ∃ P, Based h h 757 P #[] := by
  obtain ⟨d, hd⟩ := join_rec
  obtain ⟨⟨oc, od, fd, sl, hk, hc⟩, hn, _⟩ := join_obj KX rfl
  obtain ⟨c, P, e, B⟩ := based_of_top Tp hd (mg_of KX G hn) (KX _ _ hk) rfl
  rw [hc] at e
  cases e
  exact ⟨P, B⟩

def DrPost (g : Heap) (L : Addr) (s : Shared) (mm : Str → Option Value) (own : List (Addr × Obj)) (f : Flow) (s₂ : Shared) : Prop :=
  f = .next ∧ ∃ h' tk D us c dr, s₂ = { s with heap := h', toks := tk } ∧ Fr g L h' (fun y => if y = Str.ofString "drawn" then some (.ref D) else mm y) ∧ News g L h' ((D, listOf (List.toArray us) c) :: own) ∧ IntsAre us dr ∧ dr.length ≤ 10 ∧ ∀ q ∈ own, @LT.lt Nat _ q.1 D
section
variable {prog : Program} {w : World} {A : Around} {E : Value → Shared → Prop} {s : Shared} {env : Env} {g : Heap} {L : Addr} {Q : Flow → Shared → Prop}
theorem dr_mid {mm : Str → Option Value} {own : List (Addr × Obj)} {st : Stmt} {rest : List Stmt} (F : Fr g L s.heap mm) (N : News g L s.heap own)
    (h1 : wpAny (model prog w) A (exec st env) (DrPost g L s mm own) E s)
    (h2 : ∀ h' tk D us c dr, Fr g L h' (fun y => if y = Str.ofString "drawn" then some (.ref D) else mm y) → News g L h' ((D, listOf (List.toArray us) c) :: own) → IntsAre us dr → dr.length ≤ 10 → (∀ q ∈ own, @LT.lt Nat _ q.1 D) → wpAny (model prog w) A (execs rest env) Q E { s with heap := h', toks := tk }) :
    wpAny (model prog w) A (execs (st :: rest) env) Q E s := by
  refine wpAny_execs_cons (wpAny_mono h1 (fun f s' hp => ?_) fun _ _ e => e)
  obtain ⟨rfl, h', tk, D, us, c, dr, rfl, F', N', hi, hl, ho⟩ := hp
  exact h2 h' tk D us c dr F' N' hi hl ho
theorem drPost {mm : Str → Option Value} {own : List (Addr × Obj)} {h' : Heap} {tk : Nat} {D : Addr} {us : List Value} {c : Nat} {dr : List Int} {p1 : Addr × Obj} (F : Fr g L h' (fun y => if y = Str.ofString "drawn" then some (.ref D) else mm y)) (N : News g L h' ((D, listOf (List.toArray us) c) :: p1 :: own)) (hi : IntsAre us dr) (hl : dr.length ≤ 10) (ho : ∀ q ∈ own, @LT.lt Nat _ q.1 D) :
    DrPost g L s mm own .next { s with heap := h', toks := tk } := ⟨rfl, h', tk, D, us, c, dr, rfl, F, fun q hq => by
      rcases List.mem_cons.mp hq with rfl | hq
      · exact N _ (.head _)
      · exact N q (.tail _ (.tail _ hq)), hi, hl, ho⟩
end
local macro_rules | `(tactic| walk_at "m gor") => `(tactic| repeat' ((fail_if_success (with_reducible show wpAny _ _ (compareOp _ (Value.ref _) (Value.ref _)) _ _ _)); (fail_if_success (with_reducible show wpAny _ _ (compareOp _ _ (Value.ref _)) _ _ _)); (walk_at "m step")))
local macro_rules | `(tactic| walk_at "m goe") => `(tactic| repeat' ((fail_if_success (with_reducible show wpAny _ _ (compareOp _ _ _) _ _ _)); (walk_at "m step")))
theorem intsGet : ∀ {vs : List Value} {ns : List Int}, IntsAre vs ns → ∀ {k : Nat}, k < ns.length → ∃ t, vs[k]? = some (.int (ns.getD k 0) t)
  | _, _, .nil, k, h => by simp at h
  | _, _, .cons n t r, 0, _ => ⟨t, rfl⟩
  | _, _, .cons n t r, k + 1, h => by
    obtain ⟨t', e⟩ := intsGet r (k := k) (by simpa using h)
    exact ⟨t', by simpa using e⟩
theorem getD_mem {ns : List Int} {k : Nat} (h : k < ns.length) : ns.getD k 0 ∈ ns := by
  rw [List.getD_eq_getElem?_getD, List.getElem?_eq_getElem h]
  exact List.getElem_mem h
theorem newsKeep2 {g h : Heap} {L : Addr} {a b c d : Addr × Obj} {r : List (Addr × Obj)} (N : News g L h (a :: b :: c :: d :: r)) : News g L h (b :: r) := fun q hq => by
  rcases List.mem_cons.mp hq with rfl | hq
  · exact N _ (.tail _ (.head _))
  · exact N q (.tail _ (.tail _ (.tail _ (.tail _ hq))))
theorem newsGrow {h₀ h h' : Heap} {L P : Addr} {ps : Array Value} {news : List (Addr × Obj)} (N : News h₀ L h news) (hk : ∀ b o, b ≠ P → h.get? b = some o → h'.get? b = some o) (hP : h₀.get? P ≠ none) : News (regrown h₀ P ps) L h' news := fun q hq => by
  have hne : q.1 ≠ P := fun e => hP (e ▸ (N q hq).2.2)
  exact ⟨hk _ _ hne (N q hq).1, (N q hq).2.1, (Heap.get?_update_other _ _ (Ne.symm hne)).trans (N q hq).2.2⟩
theorem escs_len (m : List Nat) (k : Nat) (hk : 1 ≤ k) (hm : m.length ≤ k) : ∀ w : List Nat, (escs m w).length ≤ k * w.length
  | [] => by simp [escs]
  | c :: w => by
    have ih := escs_len m k hk hm w
    rw [List.length_cons, Nat.mul_add, Nat.mul_one]
    by_cases hc : c = 39
    · subst hc; rw [escs_q, List.length_append]; omega
    · rw [escs_o _ _ hc, List.length_cons]; omega
theorem quote_len2 (u : Str) : (quoteF u).length ≤ 5 * u.length + 2 := by
  have e : (quoteF u).length = (lst (quoteF u)).length := rfl
  have eu : u.length = (lst u).length := rfl
  rw [e, lst_quote, eu]
  unfold markL
  have := escs_len oursL 5 (by omega) (by decide) (lst u)
  split
  · omega
  · simp only [List.length_cons, List.length_append, List.length_nil]; omega
theorem sumLe2 (f : Str → Str) : ∀ us : List Str, (∀ u ∈ us, (f u).length ≤ 5 * u.length + 2) → ((us.map f).map (·.length)).sum ≤ 5 * (us.map (·.length)).sum + 2 * us.length
  | [], _ => by simp
  | u :: r, h => by
    have h1 := h u (.head _)
    have h2 := sumLe2 f r fun v hv => h v (.tail _ hv)
    simp only [List.map_cons, List.sum_cons, List.length_cons]
    omega
theorem joinF_len (us : List Str) (hl : us.length ≤ 10) (hs : (us.map (·.length)).sum ≤ 50) : (joinF us).length ≤ 1000 := by
  have h1 := sumLe2 quoteF us fun u _ => quote_len2 u
  have h2 := StrLaws.join_length_le (Str.ofString " ") (us.map quoteF)
  rw [List.length_map, show (Str.ofString " ").length = 1 from by decide +kernel] at h2
  show (Builtin.Str.glued _ _).length ≤ _
  rw [StrLaws.glued_eq_join]
  omega
theorem lines_len (f : Str → Str) (us : List Str) (hl : us.length ≤ 10) (h : ∀ u ∈ us, (f u).length ≤ 400) : (Txt.join (Str.ofString " ") (us.map f)).length ≤ 5000 := by
  have h1 := sumLe f 400 us h
  have h2 := StrLaws.join_length_le (Str.ofString " ") (us.map f)
  rw [List.length_map, show (Str.ofString " ").length = 1 from by decide +kernel] at h2
  have : us.length * 400 ≤ 10 * 400 := Nat.mul_le_mul_right _ hl
  show (Builtin.Str.glued _ _).length ≤ _
  rw [StrLaws.glued_eq_join]
  omega
theorem nesF {prog : Program} {w : World} {A : Around} {E : Value → Shared → Prop} {s : Shared} {Q : Value → Shared → Prop} {x y : Str} {u t : Tok} (h : x = y) (hT : Q (.bool false) s) : wpAny (model prog w) A (compareOp .NotEq (.str x u) (.str y t)) Q E s := by
  refine PyProof.Rows.ne_str ?_
  rw [show (x != y) = false from by simp [h]]
  exact hT
theorem marked_len (x mk : Str) (B : Nat) (hB : 1 ≤ B) (hB2 : B ≤ 15) (hx : x.length ≤ 50) (hm : mk.length ≤ B) : (markedF x mk).length ≤ B * 50 + 2 := by
  unfold markedF
  have e1 : (Str.ofString "'").length = 1 := by decide +kernel
  have hb : B * x.length ≤ B * 50 := Nat.mul_le_mul_left _ hx
  split
  · have : 1 * x.length ≤ B * x.length := Nat.mul_le_mul_right _ hB
    omega
  · rw [Str.length_append, Str.length_append, e1]
    have h1 := len_marks (x := x) (mark := mk) (B := B) hB hm
    have h2 := len_join0 ((signs x).map (markS mk))
    unfold marksF
    omega
theorem turned_len (x mk : Str) (B : Nat) (hB : 1 ≤ B) (hB2 : B ≤ 15) (hx : x.length ≤ 50) (hm : mk.length ≤ B) : (turnedF x mk).length ≤ B * 75 + 27 := by
  unfold turnedF
  have e1 : (Str.ofString "'").length = 1 := by decide +kernel
  have e2 : (Str.ofString "\"").length = 1 := by decide +kernel
  split
  · have := marked_len x mk B hB hB2 hx hm; omega
  · have hp := pairsF_le x
    have h0 : (Txt.mul (mk ++ Str.ofString "\"") (pairsF x : Int)).length ≤ (B + 1) * 25 := len_mulS (by rw [Str.length_append, e2]; omega) (by omega)
    have hs := Txt.slice_le x (some (2 * (pairsF x : Int))) none
    have h1 := len_marks (x := Txt.slice x (some (2 * (pairsF x : Int))) none) (mark := mk) (B := B) hB hm
    have h2 := len_join0 ((signs (Txt.slice x (some (2 * (pairsF x : Int))) none)).map (markS mk))
    have h3 : B * (Txt.slice x (some (2 * (pairsF x : Int))) none).length ≤ B * 50 := Nat.mul_le_mul_left _ (by omega)
    rw [Str.length_append, Str.length_append, Str.length_append, e1]
    unfold marksF
    omega
theorem sumOk {us : List Str} (f : Str → Str) (B : Nat) (hl : us.length ≤ 10) (h : ∀ u ∈ us, (f u).length ≤ B) (hB : B ≤ 100000 := by decide) : ((us.map f).map (·.length)).sum + (us.map f).length * (Str.ofString " ").length ≤ 16777216 := by
  have h1 := sumLe f B us h
  rw [List.length_map, show (Str.ofString " ").length = 1 from by decide +kernel]
  have : us.length * B ≤ 10 * 100000 := Nat.mul_le_mul hl hB
  omega
local macro_rules | `(tactic| walk_at "compareOp NotEq str str") => `(tactic| (refine nesF (by assumption) ?_))
theorem newsWent {g h h' : Heap} {L : Addr} {news : List (Addr × Obj)} {env : Env} (N : News g L h news) (W : Went [env] [] h h') (hf : env.frame = some L) : News g L h' news := fun q hq =>
  ⟨W.1 _ _ (N q hq).1 (fun e => nomatch e) (fun e => by rw [frs1 hf] at e; exact (N q hq).2.1 (List.mem_singleton.mp e)), (N q hq).2.1, (N q hq).2.2⟩
theorem hideL {g h : Heap} {L : Addr} {m : Str → Option Value} (F : Fr g L h m) : ∀ b o, g.get? b = some o → (hideAll h [L]).get? b = some o := fun b o e => hideAll_get _ (F.keep _ _ e) fun q => by
  rw [List.mem_singleton.mp q] at e
  exact Nat.lt_irrefl _ (Nat.lt_of_lt_of_le (Heap.lt_size e) F.above)
theorem fok0 (h : Heap) : FOk [] h := fun _ he => nomatch he
theorem partF_len (x : Int) : (partF x).length ≤ 5 := by
  unfold partF
  exact of_decide_eq_true (tab_get (p := fun y => decide (y.length ≤ 5)) (by decide +kernel) (by decide +kernel) _)
theorem tokRun_mem (P : Nat → Prop) (h92 : P 92) : ∀ (l : List Nat) (k : Nat) (tok : Str) (q : Bool) (e : Nat) {st' : Option Nat} {tok' : Str} {q' : Bool} {r : List Nat}, tokRun l k tok q e = .done st' tok' q' r → (∀ c ∈ l, P c) → (∀ c ∈ lst tok, P c) → (∀ c ∈ lst tok', P c) ∧ ∀ c ∈ r, P c
  | [], k, tok, q, e, st', tok', q', r, h, hl, ht => by
    unfold tokRun at h
    split at h
    · cases h
    · cases h; exact ⟨ht, hl⟩
  | c :: l, k, tok, q, e, st', tok', q', r, h, hl, ht => by
    have hl' : ∀ c ∈ l, P c := fun d hd => hl d (.tail _ hd)
    have hc : P c := hl c (.head _)
    have ap : ∀ (t : Str) (d : Nat), (∀ c ∈ lst t, P c) → P d → ∀ c ∈ lst (t ++ (⟨#[d]⟩ : Str)), P c := fun t d h1 h2 x hx => by
      rw [lst_app] at hx
      rcases List.mem_append.mp hx with hx | hx
      · exact h1 x hx
      · rw [show x = d from by simpa [lst] using hx]; exact h2
    have ih := fun k tok q e (h : tokRun l k tok q e = .done st' tok' q' r) (ht : ∀ c ∈ lst tok, P c) => tokRun_mem P h92 l k tok q e h hl' ht
    rw [tokRun] at h
    split at h
    · split at h
      · exact ih _ _ _ _ h ht
      · split at h
        · exact ih _ _ _ _ h ht
        · exact ih _ _ _ _ h (ap _ _ ht hc)
    · split at h
      · refine ih _ _ _ _ h (ap _ _ ?_ hc)
        split
        · exact ap _ _ ht h92
        · exact ht
      · split at h
        · split at h
          · cases h; exact ⟨ht, hl'⟩
          · exact ih _ _ _ _ h ht
        · split at h
          · exact ih _ _ _ _ h ht
          · split at h
            · exact ih _ _ _ _ h ht
            · refine ih _ _ _ _ h ?_
              split
              · intro x hx; rw [show x = c from by simpa [lst] using hx]; exact hc
              · exact ap _ _ ht hc
theorem told_mem (P : Nat → Prop) (h92 : P 92) : ∀ (n : Nat) (l : List Nat) (st : Option Nat) (ts : List Str), toldN n l st = some ts → (∀ c ∈ l, P c) → ∀ t ∈ ts, ∀ c ∈ lst t, P c
  | 0, _, _, _, h, _ => by cases h
  | n + 1, l, st, ts, h, hl => by
    rw [toldN_succ] at h
    cases hr : tokRunO l st (Str.ofString "") false 32 with
    | err => rw [hr] at h; cases h
    | done st' tok q r =>
      rw [hr] at h
      simp only at h
      split at h
      · cases h; intro t ht; cases ht
      · have key : (∀ c ∈ lst tok, P c) ∧ ∀ c ∈ r, P c := by
          cases st with
          | none =>
            simp only [tokRunO, TR.done.injEq] at hr
            obtain ⟨_, rfl, _, rfl⟩ := hr
            exact ⟨(fun c hc => by rw [show lst (Str.ofString "") = [] from by decide +kernel] at hc; cases hc), (fun c hc => by cases hc)⟩
          | some k => exact tokRun_mem P h92 l k _ _ _ hr hl (fun c hc => by rw [show lst (Str.ofString "") = [] from by decide +kernel] at hc; cases hc)
        cases ht : toldN n r st' with
        | none => rw [ht] at h; cases h
        | some us =>
          rw [ht] at h
          cases h
          intro t hm
          rcases List.mem_cons.mp hm with rfl | hm
          · exact key.1
          · exact told_mem P h92 n r st' us ht key.2 t hm
theorem line_mem (P : Nat → Prop) (h32 : P 32) : ∀ ls : List (List Nat), (∀ l ∈ ls, ∀ c ∈ l, P c) → ∀ c ∈ lineL ls, P c
  | [], _, c, hc => by cases hc
  | [x], h, c, hc => h x (.head _) c hc
  | x :: y :: r, h, c, hc => by
    rw [lineL_cons _ _ (by simp)] at hc
    rcases List.mem_append.mp hc with hc | hc
    · exact h x (.head _) c hc
    · rcases List.mem_cons.mp hc with rfl | hc
      · exact h32
      · exact line_mem P h32 (y :: r) (fun l hl => h l (.tail _ hl)) c hc
theorem escs_mem (P : Nat → Prop) {m : List Nat} (hm : ∀ c ∈ m, P c) : ∀ w : List Nat, (∀ c ∈ w, P c) → ∀ c ∈ escs m w, P c := fun w hw c hc => by
  obtain ⟨d, hd, hc⟩ := List.mem_flatMap.mp hc
  unfold esc at hc
  split at hc
  · exact hm c hc
  · rw [List.mem_singleton.mp hc]; exact hw d hd
theorem open_mem (P : Nat → Prop) {m : List Nat} (hm : ∀ c ∈ m, P c) (h39 : P 39) (h34 : P 34) : ∀ (n : Nat) (w : List Nat), w.length ≤ n → (∀ c ∈ w, P c) → ∀ c ∈ openL m w, P c
  | n, w, hn, hw, c, hc => by
    by_cases hp : ∃ r, w = 34 :: 39 :: r
    · obtain ⟨r, rfl⟩ := hp
      match n, hn with
      | n + 1, hn =>
        rw [openL] at hc
        rcases List.mem_append.mp hc with hc | hc
        · exact hm c hc
        · rcases List.mem_cons.mp hc with rfl | hc
          · exact h34
          · exact open_mem P hm h39 h34 n r (by simp at hn; omega) (fun d hd => hw d (.tail _ (.tail _ hd))) c hc
    · rw [openL_else fun r e => hp ⟨r, e⟩] at hc
      rcases List.mem_cons.mp hc with rfl | hc
      · exact h39
      · rcases List.mem_append.mp hc with hc | hc
        · exact escs_mem P hm w hw c hc
        · rw [List.mem_singleton.mp hc]; exact h39
theorem turned_mem (P : Nat → Prop) (h32 : P 32) (h39 : P 39) (h34 : P 34) (h92 : P 92) (ws : List Str) (h : ∀ w ∈ ws, ∀ c ∈ lst w, P c) : ∀ c ∈ lst (rep1 (joinF ws) oursS theirsS), P c := by
  rw [law1, lst_lineT, lst_theirs]
  refine line_mem P h32 _ fun l hl => ?_
  obtain ⟨w', hw', rfl⟩ := List.mem_map.mp hl
  obtain ⟨x, hx, rfl⟩ := List.mem_map.mp hw'
  unfold turnL
  split
  · exact h x hx
  · refine open_mem P (fun c hc => ?_) h39 h34 _ (lst x) (Nat.le_refl _) (h x hx)
    have : c = 39 ∨ c = 92 := by
      simp only [theirsL, List.mem_cons, List.not_mem_nil, or_false] at hc
      omega
    rcases this with rfl | rfl
    · exact h39
    · exact h92
theorem told_ok (ws : List Str) (hw : ∀ u ∈ ws, PyData.strOk u = true) {n : Nat} {ts : List Str} (h : toldN n (rep1 (joinF ws) oursS theirsS).cps.toList (some 32) = some ts) : ∀ t ∈ ts, PyData.strOk t = true := fun t ht => by
  rw [strOk_iff]
  exact told_mem _ (by decide) n _ _ ts h (turned_mem _ (by decide) (by decide) (by decide) (by decide) ws fun w hm c hc => (strOk_iff w).mp (hw w hm) c hc) t ht
section
variable {prog : Program} {w : World} {A : Around} {E : Value → Shared → Prop} {s : Shared} {value slice : Expr} {x : Str} {t : Tok} {Q : Value → Shared → Prop}
theorem slice_keep {j : Int} {uj : Tok} (hsz : x.length ≤ sizeLine) (h : ∀ h' t' k, (∀ b o, s.heap.get? b = some o → h'.get? b = some o) → Q (.str (Txt.slice x none (some j)) t') { s with heap := h', toks := k })
    (hs : subscripted slice false (.str x t) (.ref s.heap.objs.size) = operate [.ref s.heap.objs.size, .str x t] (getItem (.str x t) (.ref s.heap.objs.size)) := by with_unfolding_all rfl)
    (ht : ∀ r, letTemporaryGo value (.str x t) r = pure () := by intro _; with_unfolding_all rfl) :
    wpAny (model prog w) A (subscriptTail value slice (.str x t) (.ref s.heap.objs.size)) Q E { s with heap := s.heap.push { cls := .type "slice", data := .fields #[.none, .int j uj, .none] } } :=
  tail_of_ItemOn (SBH.sliceItem_ns (P := fun h' => ∀ b o, s.heap.get? b = some o → h'.get? b = some o) (fun _ ob hp b o hb => Heap.get?_push_of_some ob (hp b o hb)) (fun _ _ e => e) h hsz) hs ht
theorem eq_none_list {l : Addr} {items : Array Value} (hl : s.heap.IsList l items) (hu : A.units < cLine) (h : Q (.bool false) s) : wpAny (model prog w) A (compareOp .Eq .none (.ref l)) Q E s := by
  show wpAny _ A (richCompare .Eq _ _) Q E s
  exact PySem.SeqAt.RcAt.none_list hl hu prog w E _ h
end
theorem c_law {w : World} {p : Program} {loose : List Str} {mg mb : Str → Option Value} {A : Around} {s : Shared} {R : Result → Shared → Prop} {l P bm : Addr} {ob : Obj} {vs : List Value} {ns : List Int}
  (hh : A.handled = none) (hroom : A.depth + 200 < recursionLimit) (hun : A.units + 2000 < cLine) (hA : A.frames = some []) (KX : (Mine.kFrag w.params).In s.heap) (T : TopRead p loose mg mb s.heap) (hg : s.gens = #[])
  (BJ : Based s.heap s.heap 757 P #[]) (M : BMod s.heap mainGlobals mg bm ob) (hl : s.heap.IsList l vs.toArray) (hi : IntsAre vs ns) (hlen : ns.length ≤ 63)
  (h : ∀ s', OldK s.heap s'.heap → s'.os = s.os → AllBare s'.gens → R (.ok (.ret (.bool true))) s') :
  codeAny (model (PySem.Challenge.rw_mj0255_01).prog w) A (.call (.ref 814) ⟨[.ref l], []⟩) R s := by
  revert KX
  k_fill
  intro KX
  walk_at "m enterC"
  intro h₁ tkE cells F N CA
  k_cells CA
  rename (_ = Data.cell (bindC _ _ _ (Str.ofString "mark"))) => dM
  (try dsimp only)
  refine dr_mid F N ?_ ?_
  · walk_at "m go"
    · rename (_ ∧ _ ∧ _ ∧ _) => l4
      exact drPost (by assumption) (by assumption) (dr := [7, 3, 7, 0, 2, 7, 0]) (by repeat constructor) (by decide) (fun q hq => by
        rcases hq with _ | ⟨_, _ | ⟨_, _ | ⟨_, hq⟩⟩⟩
        · exact l4.2.1
        · exact l4.2.2.1
        · exact l4.2.2.2
        · cases hq)
    · rename (_ ∧ _ ∧ _ ∧ _) => l4
      exact drPost (by assumption) (by assumption) (by assumption) (by omega) (fun q hq => by
        rcases hq with _ | ⟨_, _ | ⟨_, _ | ⟨_, hq⟩⟩⟩
        · exact l4.2.1
        · exact l4.2.2.1
        · exact l4.2.2.2
        · cases hq)
  intro h2 tk2 D2 us2 c2 dr F2 N2 hI2 hl2 ho2
  clear F N
  have a1 : @LT.lt Nat _ (s.heap.objs.size + 1 + 1 + 1) D2 := ho2 _ (.head _)
  have a2 : @LT.lt Nat _ (s.heap.objs.size + 1 + 1) D2 := ho2 _ (.tail _ (.head _))
  have a3 : @LT.lt Nat _ (s.heap.objs.size + 1) D2 := ho2 _ (.tail _ (.tail _ (.head _)))
  clear ho2
  walk_at "m go"
  refine comp_ints (fun a => a.fmod 142344192) hh (by with_unfolding_all rfl) (by decide) rfl (by decide) rfl ?_ (by intro _; rfl)
  walk1
  refine ⟨D2, us2, dr, rfl, News.isList N2 (.head _), hI2.areOf, (by rw [sizeLine_eq]; omega), ?_, ?_⟩
  · intro C a t s₂ m₂ E' hm hn hx hk ht
    walk1
    refine compLocal rfl rfl hn hx ?_
    walk_at "m go"
    exact ⟨_, _, rfl, fun _ _ e => e⟩
  intro D3 ys3 h3 tk3 hk3 hD3 hpl3 hys3
  obtain ⟨n3, hD3'⟩ := hpl3
  have F3 := F2.keeps hk3
  have N3 := newsAdd F2 N2 hk3 hD3 hD3'
  have l3 := newsApart N2 hD3
  have b0 : D2 ≠ D3 := l3 _ (.head _)
  have b1 : s.heap.objs.size + 1 + 1 + 1 ≠ D3 := l3 _ (.tail _ (.head _))
  have b2 : s.heap.objs.size + 1 + 1 ≠ D3 := l3 _ (.tail _ (.tail _ (.head _)))
  have b3 : s.heap.objs.size + 1 ≠ D3 := l3 _ (.tail _ (.tail _ (.tail _ (.head _))))
  clear F2 N2
  generalize hNs : dr.map (fun a => a.fmod 142344192) = nums at hys3
  have hnl : nums.length ≤ 10 := by rw [← hNs, List.length_map]; exact hl2
  have hnr : ∀ n ∈ nums, 0 ≤ n ∧ n < 142344192 := by
    intro n hn
    rw [← hNs] at hn
    obtain ⟨a, _, rfl⟩ := List.mem_map.mp hn
    exact fmod_nonneg a (by decide)
  (try dsimp only)
  walk_at "m go"
  rename Fr _ _ _ _ => F4
  rename News _ _ _ _ => N4
  refine c_words (p := p) (loose := loose) (mg := mg) (mb := mb) (ns := nums) hh ?_ ?_ (KX.keeps F4.keep) (T.keeps F4.keep) (News.isList N4 (.head _)) hys3 hnl hnr ?_
  · walk_at "m depth"
  · walk_at "m depth"
  intro D5 us5 h5 tk5 hk5 hD5 hl5 hus5
  obtain ⟨o5, hD5', ho5c, n5, ho5d⟩ := hl5
  have F5 := F4.keeps hk5
  have N5 := newsAdd F4 N4 hk5 hD5 hD5'
  have l5 := newsApart N4 hD5
  clear F4 N4
  (try dsimp only)
  walk_at "m go"
  refine comp_range (fun k => partF ((nums.getD k 0).fdiv 16 + (k : Int))) hh (by with_unfolding_all rfl) (by decide) rfl (by decide) rfl ?_ (by intro _; rfl)
  walk_at "m go"
  rename Fr _ _ _ _ => F6
  rename News _ _ _ _ => N6
  refine min_two_N hh F6 N6 ?_
  intro h7 tk7 F7 N7
  clear F6 N6
  have em : (if (nums.length : Int) < 3 then (nums.length : Int) else 3) = ((min 3 nums.length : Nat) : Int) := by split <;> omega
  rw [em]
  have hm3 : min 3 nums.length ≤ 3 := by omega
  have hmn : min 3 nums.length ≤ nums.length := by omega
  generalize min 3 nums.length = n3' at hm3 hmn ⊢
  (try dsimp only)
  walk_at "m go"
  rename Fr _ _ _ _ => F8
  rename News _ _ _ _ => N8
  rename IsRange _ _ _ _ _ _ _ _ => hR8
  rename (_ = Data.cell (some (Value.ref D3))) => dN
  refine ⟨_, n3', _, _, _, rfl, hm3, hR8, ?_, ?_⟩
  · intro C k t s₂ m₂ E' hkn hn hx hk ht
    have X9 := (KX.keeps F8.keep).keeps hk
    have T9 := (T.keeps F8.keep).keeps hk
    refine Call_ ?_
    refine Name_function_global rfl rfl (loadGlobal_global T9.g (mg_of X9 T9.g (v := .ref 787) (by k_is)) ?_) (by decide)
    walk1
    (first | (k_unfold; (try dsimp only)) | walk1)
    walk1
    walk1
    walk1
    refine compCell rfl (by with_unfolding_all rfl) (by with_unfolding_all rfl) ⟨_, hk _ _ (N8.get (.tail _ (.tail _ (.tail _ (.tail _ (.tail _ (.head _))))))), dN⟩ ?_
    refine compLocal rfl rfl hn hx ?_
    have hl9 : s₂.heap.IsList D3 ys3.toArray := stays_list hk (News.isList N8 (.tail _ (.head _)))
    obtain ⟨tq, hq⟩ := intsGet hys3 (show k < nums.length by omega)
    have hq0 := hnr _ (getD_mem (show k < nums.length by omega))
    refine tail_any (Heap.IsList.typeIs hl9) slot_list_getitem.lookup (wpAny_getItem_list (x := .int (nums.getD k 0) tq) hl9 (by omega) (by omega) (by simpa using hq) ?_) (by with_unfolding_all rfl)
    walk1
    walk1
    refine compLocal rfl rfl hn hx ?_
    walk1
    walk_at "m go"
    refine c_part (p := p) (loose := loose) (mg := mg) (mb := mb) ?_ ?_ X9 T9 ?_
    · walk_at "m depth"
    · walk_at "m depth"
    intro t' s3 hk3
    exact ⟨⟨t', rfl⟩, keepsTrans (keepsToks _ _) hk3⟩
  intro D9 ys9 h9 tk9 hk9 hD9 hpl9 hys9
  obtain ⟨n9, hD9'⟩ := hpl9
  have F9 := F8.keeps hk9
  have N9 := newsAdd F8 N8 hk9 hD9 hD9'
  clear F8 N8 hR8
  generalize hTf : (List.range n3').map (fun k => partF ((nums.getD k 0).fdiv 16 + (k : Int))) = parts at hys9
  have hpl : parts.length ≤ 3 := by rw [← hTf]; simpa using hm3
  have hps : (parts.map (·.length)).sum ≤ 15 := by
    have := sumLe id 5 parts (fun u hu => by
      rw [← hTf] at hu
      obtain ⟨k, _, rfl⟩ := List.mem_map.mp hu
      exact partF_len _)
    rw [List.map_id] at this
    omega
  have e0 : (Str.ofString "").length = 0 := by decide +kernel
  (try dsimp only)
  walk_at "m go"
  rename Fr _ _ _ _ => F10
  rename News _ _ _ _ => N10
  have c1 : s.heap.objs.size + 1 + 1 + 1 ≠ D5 := l5 _ (.tail _ (.tail _ (.head _)))
  have c2 : s.heap.objs.size + 1 + 1 ≠ D5 := l5 _ (.tail _ (.tail _ (.tail _ (.head _))))
  have c3 : s.heap.objs.size + 1 ≠ D5 := l5 _ (.tail _ (.tail _ (.tail _ (.tail _ (.head _)))))
  refine join_list (News.isList N10 (.head _)) (by simpa using hys9) (by rw [e0]; omega) ?_
  intro tJ kJ
  have h3l := len_join0 parts
  generalize hTh : Txt.join (Str.ofString "") parts = third at h3l ⊢
  have h3l' : third.length ≤ 15 := by omega
  have N11 := newsKeep2 N10
  clear N10 l5 l3 b0 b1 b2 b3 a1 a2 a3
  walk_at "m go"
  rename Fr _ _ _ _ => F12
  rename News _ _ _ _ => N12
  have hwk := wordsF_wok nums
  have hwl : (wordsF nums).length ≤ 10 := Nat.le_trans hwk.len hnl
  have hwe : ∀ u ∈ wordsF nums, u.length ≤ 50 := fun u hu => by have := (hwk.each u hu).1; omega
  have hwo : ∀ u ∈ wordsF nums, PyData.strOk u = true := fun u hu => (hwk.each u hu).2
  have hws : ((wordsF nums).map (·.length)).sum ≤ 50 := by have := hwk.sum; omega
  generalize wordsF nums = ws at hus5 hwl hwe hwo hws
  refine c_join (p := p) (loose := loose) (mg := mg) (mb := mb) (P := P) hh ?_ ?_ (KX.keeps F12.keep) (T.keeps F12.keep) (AllBare.of_eq hg) (BJ.codeAt F12) (BJ.tabAt F12) BJ.notStatics (M.keeps F12.keep) ⟨o5, N12.get (.head _), ho5c, n5, ho5d⟩ hus5 hwl hwe ?_
  · walk_at "m depth"
  · walk_at "m depth"
  intro tL s13 more hk13 hc13 ht13 hg13 hos13
  obtain ⟨B13, F13⟩ := BJ.grow F12 hk13 hc13 ht13
  have hPs : s.heap.get? P ≠ none := by rw [BJ.tab.2]; simp
  have N13 := newsGrow (ps := #[] ++ more) N12 hk13 hPs
  have KX13 := kb_in_regrown (ps' := #[] ++ more) BJ KX T.g (kbK w.params)
  have T13 := LGe.top_regrown F13 T BJ
  have hfin : ∀ s', (∃ m, Fr (regrown s.heap P (#[] ++ more)) s.heap.objs.size s'.heap m) → s'.os = s.os → AllBare s'.gens → R (.ok (.ret (.bool true))) s' := fun s' hF ho hb => by
    obtain ⟨m, hF⟩ := hF
    exact h s' (B13.finish hF) ho hb
  clear F12 N12 h BJ M KX T hk13 hc13 ht13 B13
  generalize regrown s.heap P (#[] ++ more) = g at *
  (try dsimp only)
  walk_at "m go"
  rename Fr _ _ _ _ => F14
  rename News _ _ _ _ => N14
  have hjl : (joinF ws).length ≤ 1000 := joinF_len ws hwl hws
  generalize hLn : joinF ws = line at *
  refine for_marks (fun u => u.length ≤ 15) hh F14 N14 ?_ ?_ ?_
  · walk_at "m go"
    refine ⟨_, [_, _, _], [theirsS, Str.ofString "'", third], _, _, _, _, _, dM, rfl, rfl, .cons _ _ (.cons _ _ (.cons _ _ .nil)), by assumption, by assumption, ?_, ?_⟩
    · rename (_ ∧ _ ∧ _ ∧ _) => l4
      exact Nat.ne_of_gt l4.2.1
    · intro u hu
      rcases hu with _ | ⟨_, _ | ⟨_, _ | ⟨_, hu⟩⟩⟩
      · decide +kernel
      · decide +kernel
      · exact h3l'
      · cases hu
  · intro mk tm h15 tk15 om15 pI pA dv15 hdv15 hmk F15 N15 hpI hpA
    clear F14 N14
    obtain ⟨aI, oI⟩ := pI
    obtain ⟨aA, oA⟩ := pA
    dsimp only at hpI hpA
    have hpI' := Ne.symm hpI
    have hpA' := Ne.symm hpA
    walk_at "m go"
    rename Fr _ _ _ _ => F17
    rename News _ _ _ _ => N17
    refine c_replace1 (p := p) (loose := loose) (mg := mg) (mb := mb) hh ?_ ?_ (KX13.keeps F17.keep) (T13.keeps F17.keep) (by omega) (by decide +kernel) (by omega) ?_
    · walk_at "m depth"
    · walk_at "m depth"
    intro t18 s18 hk18
    obtain ⟨h18, tk18, rfl, hk18⟩ := hk18
    have F18 := F17.keeps hk18
    have N18 := News.grown N17 hk18
    clear F17 N17
    (try dsimp only)
    walk_at "m go"
    refine comp_strs (fun _ => true) (fun x => turnedF x mk) hh (by with_unfolding_all rfl) (by decide) rfl (by decide) rfl ?_ (by intro _; rfl)
    walk_at "m go"
    rename Fr _ _ _ _ => F19
    rename News _ _ _ _ => N19
    rename (_ = Data.cell (some (Value.str mk tm))) => dK
    refine ⟨D5, us5, ws, rfl, ⟨o5, N19.get (.tail _ (.tail _ (.head _))), ho5c, n5, ho5d⟩, hus5.areOf, (by rw [sizeLine_eq]; omega), ?_, ?_, ?_⟩
    · intro C a t s₂ m₂ E' _ hn hm hk _
      exact tests0 ⟨rfl, keepsRefl _⟩
    · intro C a t s₂ m₂ E' ha _ hn hm hk _
      have X20 := (KX13.keeps F19.keep).keeps hk
      have T20 := (T13.keeps F19.keep).keeps hk
      refine Call_ ?_
      refine Name_function_global rfl rfl (loadGlobal_global T20.g (mg_of X20 T20.g (v := .ref 802) (by k_is)) ?_) (by decide)
      walk1
      (first | (k_unfold; (try dsimp only)) | walk1)
      refine compLocal rfl rfl hn hm ?_
      (first | (k_unfold; (try dsimp only)) | walk1)
      refine compCell rfl (by with_unfolding_all rfl) (by with_unfolding_all rfl) ⟨_, hk _ _ (N19.get (.tail _ (.tail _ (.tail _ (.head _))))), dK⟩ ?_
      (first | (k_unfold; (try dsimp only)) | walk1)
      refine ⟨X20, ?_⟩
      refine c_turned (p := p) (loose := loose) (mg := mg) (mb := mb) hh ?_ ?_ X20 T20 (by have := hwe a ha; omega) (by omega) (hwo a ha) ?_
      · walk_at "m depth"
      · walk_at "m depth"
      intro t' s3 hk3
      exact ⟨⟨t', rfl⟩, hk3⟩
    · intro D21 ys21 h21 tk21 hk21 hD21 hpl21 hys21
      obtain ⟨n21, hD21'⟩ := hpl21
      have F22 := F19.keeps hk21
      have N22 := newsAdd F19 N19 hk21 hD21 hD21'
      clear F19 N19
      rw [filterTrue] at hys21
      (try dsimp only)
      walk_at "m go"
      rename Fr _ _ _ _ => F23
      rename News _ _ _ _ => N23
      refine join_list (News.isList N23 (.head _)) (by simpa using hys21) (sumOk _ (15 * 75 + 27) hwl fun u hu => turned_len u mk 15 (by omega) (by omega) (hwe u hu) hmk) ?_
      intro tJ2 kJ2
      refine nesF (by rw [← hLn]; exact law1 ws mk) ?_
      walk_at "m go"
      refine ⟨rfl, _, _, _, _, dK, rfl, F23, newsTl N23⟩
  · intro h16 tk16 om16 F16 N16
    clear F14 N14
    rename (_ = Data.cell (some (Value.str (Str.ofString "'\\''") _))) => dT
    (try dsimp only)
    walk_at "m go"
    refine comp_strs (fun _ => true) (fun x => markedF x theirsS) hh (by with_unfolding_all rfl) (by decide) rfl (by decide) rfl ?_ (by intro _; rfl)
    walk_at "m go"
    rename Fr _ _ _ _ => F19
    rename News _ _ _ _ => N19
    refine ⟨D5, us5, ws, rfl, ⟨o5, N19.get (.head _), ho5c, n5, ho5d⟩, hus5.areOf, (by rw [sizeLine_eq]; omega), ?_, ?_, ?_⟩
    · intro C a t s₂ m₂ E' _ hn hm hk _
      exact tests0 ⟨rfl, keepsRefl _⟩
    · intro C a t s₂ m₂ E' ha _ hn hm hk _
      have X20 := (KX13.keeps F19.keep).keeps hk
      have T20 := (T13.keeps F19.keep).keeps hk
      refine Call_ ?_
      refine Name_function_global rfl rfl (loadGlobal_global T20.g (mg_of X20 T20.g (v := .ref 797) (by k_is)) ?_) (by decide)
      walk1
      (first | (k_unfold; (try dsimp only)) | walk1)
      refine compLocal rfl rfl hn hm ?_
      (first | (k_unfold; (try dsimp only)) | walk1)
      refine compCell rfl (by with_unfolding_all rfl) (by with_unfolding_all rfl) ⟨_, hk _ _ (N19.get (.tail _ (.tail _ (.head _)))), dT⟩ ?_
      (first | (k_unfold; (try dsimp only)) | walk1)
      refine ⟨X20, ?_⟩
      refine c_marked (p := p) (loose := loose) (mg := mg) (mb := mb) hh ?_ ?_ X20 T20 (by have := hwe a ha; omega) (by decide +kernel) (hwo a ha) ?_
      · walk_at "m depth"
      · walk_at "m depth"
      intro t' s3 hk3
      exact ⟨⟨t', rfl⟩, hk3⟩
    intro D21 ys21 h21 tk21 hk21 hD21 hpl21 hys21
    obtain ⟨n21, hD21'⟩ := hpl21
    have F22 := F19.keeps hk21
    have N22 := newsAdd F19 N19 hk21 hD21 hD21'
    clear F19 N19
    rw [filterTrue] at hys21
    (try dsimp only)
    walk_at "m go"
    rename Fr _ _ _ _ => F23
    rename News _ _ _ _ => N23
    have hml := fun u hu => marked_len u theirsS 4 (by omega) (by omega) (hwe u hu) (by decide +kernel)
    have htl := fun u hu => turned_len u theirsS 4 (by omega) (by omega) (hwe u hu) (by decide +kernel)
    refine join_list (News.isList N23 (.head _)) (by simpa using hys21) (sumOk _ (4 * 50 + 2) hwl hml) ?_
    intro tO kO
    have hol : (otherF ws).length ≤ 5000 := lines_len _ ws hwl fun u hu => Nat.le_trans (hml u hu) (by decide)
    have ho2 := law2 ws
    have ho3 := law3 ws
    have ho4 := law4 ws
    have ho5 := law5 ws
    have hrl : (rep1 (joinF ws) oursS theirsS).length ≤ 5000 := by rw [law1]; exact lines_len _ ws hwl fun u hu => Nat.le_trans (htl u hu) (by decide)
    rw [hLn] at ho2 ho3 ho5 hrl
    change wpAny _ _ _ _ _ _
    have eO : Txt.join (Str.ofString " ") (ws.map fun x => markedF x theirsS) = otherF ws := rfl
    rw [eO]
    generalize hOt : otherF ws = other at hol ho2 ho4 ⊢
    have N24 := newsTl N23
    clear N23
    walk_at "m go"
    rename Fr _ _ _ _ => F25
    rename News _ _ _ _ => N25
    refine c_replace1 (p := p) (loose := loose) (mg := mg) (mb := mb) hh ?_ ?_ (KX13.keeps F25.keep) (T13.keeps F25.keep) (by omega) (by decide +kernel) (by decide +kernel) ?_
    · walk_at "m depth"
    · walk_at "m depth"
    intro t26 s26 hk26
    obtain ⟨h26, tk26, rfl, hk26⟩ := hk26
    have F26 := F25.keeps hk26
    have N26 := News.grown N25 hk26
    clear F25 N25
    (try dsimp only)
    walk_at "m go"
    rename Fr _ _ _ _ => F27
    rename News _ _ _ _ => N27
    refine c_replace2 (p := p) (loose := loose) (mg := mg) (mb := mb) hh ?_ ?_ (KX13.keeps F27.keep) (T13.keeps F27.keep) (by omega) (by decide +kernel) (by decide +kernel) (by decide +kernel) (by decide +kernel) ?_
    · walk_at "m depth"
    · walk_at "m depth"
    intro t28 s28 hk28
    obtain ⟨h28, tk28, rfl, hk28⟩ := hk28
    have F28 := F27.keeps hk28
    have N28 := News.grown N27 hk28
    clear F27 N27
    (try dsimp only)
    walk_at "m go"
    rename Fr _ _ _ _ => F29
    rename News _ _ _ _ => N29
    refine c_told (p := p) (loose := loose) (mg := mg) (mb := mb) (L2 := s.heap.objs.size) hh ?_ ?_ (Around.frames_deeper hA) rfl ((fok0 _).cons (by rfl) (by rfl) F29.ns) (KX13.keeps (hideL F29)) (T13.keeps (hideL F29)) hol ?_ ?_
    · walk_at "m depth"
    · walk_at "m depth"
    rotate_left
    · intro hno
      rw [ho4] at hno
      cases hno
    intro ts30 D30 h30 tk30 acc30 k30 ht30 hD30 hw30 hs30 hst30
    rw [ho4] at ht30
    cases ht30
    have F30 := frWent F29 hw30 rfl (fun b hb => nomatch hb) (fun d hd => nomatch hd)
    have N30 := newsCons F29 (newsWent N29 hw30 rfl) hD30 hs30
    clear F29 N29 hw30
    (try dsimp only)
    walk1
    refine ne_strs (News.isList N30 (.head _)) ⟨o5, N30.get (.tail _ (.head _)), ho5c, n5, ho5d⟩ hst30 hus5 hwo hwo (by walk_at "m depth") ?_
    rw [show (!decide (ws = ws)) = false from by simp]
    have N31 := newsTl N30
    clear N30
    walk_at "m gor"
    refine comp_strs (fun x => Txt.slice x none (some 2) == Str.ofString "\"'") id hh (by with_unfolding_all rfl) (by decide) rfl (by decide) rfl ?_ (by intro _; rfl)
    walk_at "m gor"
    rename Fr _ _ _ _ => F32
    rename News _ _ _ _ => N32
    refine ⟨D5, us5, ws, rfl, ⟨o5, N32.get (.head _), ho5c, n5, ho5d⟩, hus5.areOf, (by rw [sizeLine_eq]; omega), ?_, ?_, ?_⟩
    · intro C a t s₂ m₂ E' ha hn hm hk _
      have hal := hwe a ha
      refine tests1 (wpAny_isTrue_Compare1 ?_)
      walk1
      refine compLocal rfl rfl hn hm ?_
      walk_at "m goe"
      refine slice_keep (s := ⟨_, _, _, _, _⟩) (by rw [sizeLine_eq]; omega) ?_
      intro h' t' k' hk'
      walk_at "m goe"
      refine eq_str ?_
      refine wpAny_truthy_bool ?_
      exact ⟨rfl, ⟨_, _, rfl, hk'⟩⟩
    · intro C a t s₂ m₂ E' _ _ hn hm hk _
      exact compLocal rfl rfl hn hm ⟨⟨t, rfl⟩, keepsRefl _⟩
    intro D33 ys33 h33 tk33 hk33 hD33 hpl33 hys33
    obtain ⟨n33, hD33'⟩ := hpl33
    have F33 := F32.keeps hk33
    have N33 := newsAdd F32 N32 hk33 hD33 hD33'
    have l33 := newsApart N32 hD33
    clear F32 N32
    rw [List.map_id] at hys33
    (try dsimp only)
    walk_at "m gor"
    rename Fr _ _ _ _ => F34
    rename News _ _ _ _ => N34
    refine eq_strs (ys := []) (News.isList N34 (.tail _ (.head _))) (News.isList N34 (.head _)) hys33 .nil (fun x hx => hwo x (List.mem_filter.mp hx).1) (fun x hx => nomatch hx) (by walk_at "m depth") ?_
    have eF : decide ((ws.filter fun x => Txt.slice x none (some 2) == Str.ofString "\"'") = []) = fitsB ws := rfl
    rw [eF]
    rw [← eF] at ho5
    generalize hFt : decide ((ws.filter fun x => Txt.slice x none (some 2) == Str.ofString "\"'") = []) = fits at ho5
    rw [← eF, hFt]
    have N35 := newsTl (newsTl N34)
    clear N34
    walk_at "m gor"
    rename Fr _ _ _ _ => F36
    rename News _ _ _ _ => N36
    refine c_replace1 (p := p) (loose := loose) (mg := mg) (mb := mb) hh ?_ ?_ (KX13.keeps F36.keep) (T13.keeps F36.keep) (by omega) (by decide +kernel) (by decide +kernel) ?_
    · walk_at "m depth"
    · walk_at "m depth"
    intro t37 s37 hk37
    obtain ⟨h37, tk37, rfl, hk37⟩ := hk37
    have F37 := F36.keeps hk37
    have N37 := News.grown N36 hk37
    clear F36 N36
    generalize hTu : rep1 line oursS theirsS = turned at hrl ho5
    (try dsimp only)
    walk_at "m gor"
    rename Fr _ _ _ _ => F38
    rename News _ _ _ _ => N38
    refine c_told (p := p) (loose := loose) (mg := mg) (mb := mb) (L2 := s.heap.objs.size) hh ?_ ?_ (Around.frames_deeper hA) rfl ((fok0 _).cons (by rfl) (by rfl) F38.ns) (KX13.keeps (hideL F38)) (T13.keeps (hideL F38)) hrl ?_ ?_
    · walk_at "m depth"
    · walk_at "m depth"
    · intro ts D39 h39 tk39 acc39 k39 ht39 hD39 hw39 hs39 hst39
      have hto : ∀ t ∈ ts, PyData.strOk t = true := by
        rw [← hTu, ← hLn] at ht39
        exact told_ok ws hwo ht39
      have F39 := frWent F38 hw39 rfl (fun b hb => nomatch hb) (fun d hd => nomatch hd)
      have N39 := newsCons F38 (newsWent N38 hw39 rfl) hD39 hs39
      clear F38 N38 hw39
      rw [ht39] at ho5
      have e5 : decide (ts = ws) = fits := by rw [← ho5]; simp
      (try dsimp only)
      walk1
      refine eq_strs (News.isList N39 (.head _)) ⟨o5, N39.get (.tail _ (.head _)), ho5c, n5, ho5d⟩ hst39 hus5 hto hwo (by walk_at "m depth") ?_
      rw [e5]
      walk_at "m go"
      rename Fr _ _ _ _ => F40
      rw [beq_self_eq_true]
      exact hfin _ ⟨_, F40⟩ hos13 hg13
    · intro hno h39 tk39 hw39
      have F39 := frWent F38 hw39 rfl (fun b hb => nomatch hb) (fun d hd => nomatch hd)
      have N39 := newsWent N38 hw39 rfl
      clear F38 N38 hw39
      rw [hno] at ho5
      have e5 : false = fits := by rw [← ho5]; simp
      subst e5
      (try dsimp only)
      walk1
      refine eq_none_list ⟨o5, N39.get (.head _), ho5c, n5, ho5d⟩ (by walk_at "m depth") ?_
      walk_at "m go"
      rename Fr _ _ _ _ => F40
      exact hfin _ ⟨_, F40⟩ hos13 hg13
end
end Mine
section
open PySem PySem.W PySem.Calls PySem.Spec PyProof.Rows
set_option maxRecDepth 100000
set_option maxHeartbeats 0
theorem Mine.ref_inj {mg : Str → Option Value} {n : Str} {a b : Addr} (h1 : mg n = some (.ref a)) (h2 : mg n = some (.ref b)) : a = b := by
  rw [h1] at h2; injection h2 with e; injection e
theorem PySem.Challenge.cw_mj0255_01_holds : PySem.Challenge.rw_mj0255_01.Holds := by
  w_on
  refine holds_law Mine.said fun said => ?_
  refine holds_open (q := Mine.vw) (loose := Mine.hLoose) (Xt := Mine.seenX) (XP := XL Mine.vw []) (Yf := Mine.hook.obs) (Ya := Mine.hook.val) (YP := Mine.hook.says) (N := 10478) Mine.left Mine.hook.of Mine.hook.keeps (fun s e => xl_of s (Bool.and_eq_true_iff.mp e).1) XL.keeps (by rfl) (by rfl) (by rfl) (fun s e => recFacts_of (Bool.and_eq_true_iff.mp e).2) (by rfl) (by assumption) (by decide +kernel) ⟨rfl, rfl, rfl, rfl, rfl, by decide +kernel⟩ ?hw ?hc
  case hw => w_witness2
  intro w s₀ s₁ mg mb G Y fa o pm cd doc dV kV ho hd hcd hD hmg hg args vals as hpre hlay hrd hwl hlo
  have KX := kIn_of Y
  refine Ground.open G ?_
  intro T B D TE TW
  try (refine guard_noD D (by decide +kernel) ?_; clear D)
  obtain ⟨_, _, M⟩ := bmod_of_top T
  wrow_args hpre hlay hrd hwl hlo
  all_goals (first | refine callC_kw (enter_call ?_) | refine enter_call ?_ | refine callC_kw (enter_callW ?_) | refine enter_callW ?_ | w_how)
  rename IntsAre _ _ => hI
  rename Heap.IsList _ _ _ => hL
  have TR := topRead_of T
  obtain ⟨P, BJ⟩ := Mine.join_based KX T TR.g
  have hfa := mg_of KX TR.g (Mine.join_obj KX rfl).2.2
  have ef := Mine.ref_inj hmg hfa
  clear hmg hfa
  subst ef
  refine Mine.c_law (A := callerA) rfl (by decide) (by decide) rfl KX TR hg BJ M hL hI (by omega) ?_
  intro s' hK hos hb
  refine ⟨.inl ⟨.bool true, .bool true, [], rfl, raisesW_false (by wrow_none_raised), .bool true, postW_of (by wrow_shape) (by wtm_val) (by w_fin), unshared_nil⟩, hK, hos, hb⟩
end
