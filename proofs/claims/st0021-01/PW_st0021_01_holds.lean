import PyProof.Rows.All
import Wide.All
import OpenK.AllK
import Wide.FinOn
import PySem.Sre
import Lean
import PySem.Challenge.RW_st0021_01
set_option Elab.async false
section
set_option maxRecDepth 100000
set_option maxHeartbeats 0
set_option linter.unusedVariables false
namespace Mine
open PySem PySem.W PySem.Calls PyProof.Rows

noncomputable abbrev pw : Program := PySem.Challenge.pw_st0021_01
noncomputable def stmtAt (i : Nat) : Stmt := (pw.main.body[i]?).getD (.Pass ⟨0, 0, 0, 0⟩)
noncomputable def fnParams (i : Nat) : Arguments := match stmtAt i with | .FunctionDef (args := a) .. => a | _ => { posonlyargs := [], args := [], vararg := none, kwonlyargs := [], kw_defaults := [], kwarg := none, defaults := [] }
noncomputable def fnBody (i : Nat) : List Stmt := match stmtAt i with | .FunctionDef (body := b) .. => b | _ => []
noncomputable def fnScope (i : Nat) : Scope := match stmtAt i with | .FunctionDef (scope := s) .. => s | _ => { kind := .function, names := [], isGenerator := false, isCoroutine := false, more := [] }
noncomputable def fnData (i : Nat) (name qual : Str) (globals : Addr) (closure : List (Str × Addr)) (dV kV doc pm : Value) (an : Option Addr) (cd ct : Value) (bt : Addr) : FuncData :=
  { name := name, qualname := qual, params := fnParams i, body := .stmts (fnBody i), scope := fnScope i, globals := globals, closure := closure, defaults := dV, kwdefaults := kV, doc := doc, pyModule := pm, annotations := an, code := cd, closureTuple := ct, builtins := bt }
noncomputable def ent (P : Params) (x : Str) (t : Nat) (v : Value) : DictEntry := ⟨PyData.keyHash P x, .str x t, v⟩

/-- the cells of the table: read off the text itself -/
noncomputable def keyNum : Option Expr → Int | some (.Constant (.int i) _ _) => i | _ => 0
noncomputable def valStr : Expr → Str | .Constant (.str x) _ _ => x | _ => Str.empty
noncomputable def dictParts : Stmt → List (Option Expr) × List Expr | .Assign _ (.Dict ks vs _) _ => (ks, vs) | _ => ([], [])
noncomputable def cells : List (Int × Str) := let p := dictParts (stmtAt 9); (p.1.map keyNum).zip (p.2.map valStr)
/-- entries of a long run: three tokens an item, the key's first, from token k -/
noncomputable def entsLong (k : Nat) : List (Int × Str) → List DictEntry
  | [] => []
  | (i, x) :: r => ⟨i, .int i k, .str x (k + 1)⟩ :: entsLong (k + 3) r
/-- entries of a short run (at most fifteen): two tokens an item -/
noncomputable def entsShort (k : Nat) : List (Int × Str) → List DictEntry
  | [] => []
  | (i, x) :: r => ⟨i, .int i k, .str x (k + 1)⟩ :: entsShort (k + 2) r
noncomputable def dictObj (es : List DictEntry) (n : Nat) : Obj := ⟨.type "dict", none, .dict es.toArray n, #[]⟩
noncomputable def b3ents : List DictEntry := entsLong 420 (cells.take 646) ++ entsShort 2358 (cells.drop 646)
noncomputable def b3obj (_ : Params) : Nat → Obj
  | 0 => dictObj b3ents 650
  | 38 => dictObj (entsShort 2358 (cells.drop 646)) 4
  | j => dictObj (entsLong (420 + 51 * j) ((cells.drop (17 * j)).take 17)) 17
noncomputable def o1v0 (P : Params) : Obj := ⟨(.type "dict"), none, (.dict #[ent P (Str.ofString "builtins") 162 (.ref 4), ent P (Str.ofString "__main__") 163 (.ref 5), ent P (Str.ofString "_sre") 244 (.ref 12)] 3), #[]⟩
noncomputable def o2v0 (P : Params) : Obj := ⟨.none, none, (.dict #[ent P ((⟨#[105, 109, 112, 111, 114, 116, 46, 108, 111, 97, 100, 101, 100, 46, 95, 115, 114, 101]⟩ : Str)) 183 (.bool true), ent P (Str.ofString "class._frozen_importlib.BuiltinImporter") 185 (.ref 14), ent P ((⟨#[119, 97, 116, 99, 104, 101, 100, 46, 105, 109, 112, 111, 114, 116]⟩ : Str)) 206 (.ref 18), ent P (Str.ofString "class._frozen_importlib.ModuleSpec") 216 (.ref 22), ent P (Str.ofString "sys.modules.booked-epoch") 245 (.int 3 0), ent P ((⟨#[105, 109, 112, 111, 114, 116, 46, 108, 97, 116, 101, 114, 45, 108, 97, 105, 100, 46, 95, 115, 114, 101]⟩ : Str)) 270 (.bool true), ent P (Str.ofString "watched.library") 272 (.ref 27), ent P (Str.ofString "watched.library-objects") 0 (.str (Str.mk #[12]) 0), ent P (Str.ofString "watched.library-deep._sre") 273 (.str (Str.mk #[4, 0, 0, 11, 4, 0, 0, 11, 4, 0, 0, 3, 4, 0, 0, 11, 8, 4, 100, 105, 99, 116, 2]) 0)] 9), #[]⟩
noncomputable def o3v0 (P : Params) : Obj := ⟨(.type "dict"), none, (.dict #[ent P (Str.ofString "__name__") 165 (.str (Str.ofString "__main__") 164), ent P (Str.ofString "__doc__") 166 .none, ent P (Str.ofString "__package__") 167 .none, ent P (Str.ofString "__loader__") 168 (.builtin "__main__.__loader__#opaque"), ent P (Str.ofString "__spec__") 169 .none, ent P (Str.ofString "__annotations__") 170 (.ref 6), ent P (Str.ofString "__builtins__") 171 (.ref 4), ent P (Str.ofString "__file__") 173 (.str (Str.ofString "/claim/cut.py") 172), ent P (Str.ofString "__cached__") 174 .none, ent P (Str.ofString "_sre") 275 (.ref 12)] 10), #[]⟩
noncomputable def o11v0 (P : Params) : Obj := ⟨(.type "dict"), none, (.dict #[ent P (Str.ofString "__name__") 247 (.str (Str.ofString "_sre") 246), ent P (Str.ofString "__doc__") 248 .none, ent P (Str.ofString "__package__") 250 (.str (Str.ofString "") 249), ent P (Str.ofString "__loader__") 251 (.builtin "off-the-table:_sre.__loader__:shared#opaque"), ent P (Str.ofString "__spec__") 252 (.builtin "off-the-table:_sre.__spec__:shared#opaque"), ent P (Str.ofString "compile") 253 (.builtin "_sre.compile"), ent P (Str.ofString "template") 254 (.builtin "off-the-table:_sre.template:shared#opaque"), ent P (Str.ofString "getcodesize") 255 (.builtin "off-the-table:_sre.getcodesize:shared#opaque"), ent P (Str.ofString "ascii_iscased") 256 (.builtin "off-the-table:_sre.ascii_iscased:shared#opaque"), ent P (Str.ofString "unicode_iscased") 257 (.builtin "off-the-table:_sre.unicode_iscased:shared#opaque"), ent P (Str.ofString "ascii_tolower") 258 (.builtin "off-the-table:_sre.ascii_tolower:shared#opaque"), ent P (Str.ofString "unicode_tolower") 259 (.builtin "off-the-table:_sre.unicode_tolower:shared#opaque"), ent P (Str.ofString "MAGIC") 261 (.int 20230612 260), ent P (Str.ofString "CODESIZE") 263 (.int 4 262), ent P (Str.ofString "MAXREPEAT") 265 (.int 4294967295 264), ent P (Str.ofString "MAXGROUPS") 267 (.int 1073741823 266), ent P (Str.ofString "copyright") 269 (.str (Str.ofString " SRE 2.2.2 Copyright (c) 1997-2002 by Secret Labs AB ") 268)] 17), #[]⟩
noncomputable def o12v0 (P : Params) : Obj := ⟨(.type "module"), (some 11), .plain, #[]⟩
noncomputable def o13v0 (P : Params) : Obj := ⟨(.type "dict"), none, (.dict #[ent P (Str.ofString "__module__") 189 (.str (Str.ofString "_frozen_importlib") 186), ent P (Str.ofString "__firstlineno__") 190 (.int 971 187), ent P (Str.ofString "__doc__") 191 (.builtin "_frozen_importlib.BuiltinImporter.__doc__:str#opaque"), ent P (Str.ofString "_ORIGIN") 192 (.str (Str.ofString "built-in") 188), ent P (Str.ofString "find_spec") 193 (.builtin "_frozen_importlib.BuiltinImporter.find_spec#opaque"), ent P (Str.ofString "create_module") 194 (.builtin "_frozen_importlib.BuiltinImporter.create_module#opaque"), ent P (Str.ofString "exec_module") 195 (.builtin "_frozen_importlib.BuiltinImporter.exec_module#opaque"), ent P (Str.ofString "get_code") 196 (.builtin "_frozen_importlib.BuiltinImporter.get_code#opaque"), ent P (Str.ofString "get_source") 197 (.builtin "_frozen_importlib.BuiltinImporter.get_source#opaque"), ent P (Str.ofString "is_package") 198 (.builtin "_frozen_importlib.BuiltinImporter.is_package#opaque"), ent P (Str.ofString "load_module") 199 (.builtin "_frozen_importlib.BuiltinImporter.load_module#opaque"), ent P (Str.ofString "__static_attributes__") 200 (.ref 15), ent P (Str.ofString "__dict__") 202 (.ref 16), ent P (Str.ofString "__weakref__") 204 (.ref 17)] 14), #[]⟩
noncomputable def o14v0 (P : Params) : Obj := ⟨(.type "type"), none, (.cls { name := (Str.ofString "BuiltinImporter"), bases := [(.type "object")], mro := [(.ref 14), (.type "object")], ns := 13, qualname := (Str.ofString "BuiltinImporter"), hasDict := true, slotNames := [], subclasses := [], abstract := false, collection := none, hasDel := false }), #[]⟩
noncomputable def o15v0 (P : Params) : Obj := ⟨(.type "tuple"), none, (.seq #[] 0), #[]⟩
noncomputable def o16v0 (P : Params) : Obj := ⟨(.type "getset_descriptor"), none, (.fields #[(.str (Str.ofString "__dict__") 201), (.ref 14), (.builtin "function.__dict__"), (.builtin "function.__dict__#set")]), #[]⟩
noncomputable def o17v0 (P : Params) : Obj := ⟨(.type "getset_descriptor"), none, (.fields #[(.str (Str.ofString "__weakref__") 203), (.ref 14), (.builtin "ExceptionGroup.__weakref__"), .none]), #[]⟩
noncomputable def o18v0 (P : Params) : Obj := ⟨.none, none, (.seq #[(.int 13 0), (.str (Str.mk #[6, 189, 10, 95, 95, 109, 111, 100, 117, 108, 101, 95, 95, 6, 186, 17, 95, 102, 114, 111, 122, 101, 110, 95, 105, 109, 112, 111, 114, 116, 108, 105, 98, 6, 190, 15, 95, 95, 102, 105, 114, 115, 116, 108, 105, 110, 101, 110, 111, 95, 95, 4, 187, 0, 971, 6, 191, 7, 95, 95, 100, 111, 99, 95, 95, 9, 52, 95, 102, 114, 111, 122, 101, 110, 95, 105, 109, 112, 111, 114, 116, 108, 105, 98, 46, 66, 117, 105, 108, 116, 105, 110, 73, 109, 112, 111, 114, 116, 101, 114, 46, 95, 95, 100, 111, 99, 95, 95, 58, 115, 116, 114, 35, 111, 112, 97, 113, 117, 101, 6, 192, 7, 95, 79, 82, 73, 71, 73, 78, 6, 188, 8, 98, 117, 105, 108, 116, 45, 105, 110, 6, 193, 9, 102, 105, 110, 100, 95, 115, 112, 101, 99, 9, 50, 95, 102, 114, 111, 122, 101, 110, 95, 105, 109, 112, 111, 114, 116, 108, 105, 98, 46, 66, 117, 105, 108, 116, 105, 110, 73, 109, 112, 111, 114, 116, 101, 114, 46, 102, 105, 110, 100, 95, 115, 112, 101, 99, 35, 111, 112, 97, 113, 117, 101, 6, 194, 13, 99, 114, 101, 97, 116, 101, 95, 109, 111, 100, 117, 108, 101, 9, 54, 95, 102, 114, 111, 122, 101, 110, 95, 105, 109, 112, 111, 114, 116, 108, 105, 98, 46, 66, 117, 105, 108, 116, 105, 110, 73, 109, 112, 111, 114, 116, 101, 114, 46, 99, 114, 101, 97, 116, 101, 95, 109, 111, 100, 117, 108, 101, 35, 111, 112, 97, 113, 117, 101, 6, 195, 11, 101, 120, 101, 99, 95, 109, 111, 100, 117, 108, 101, 9, 52, 95, 102, 114, 111, 122, 101, 110, 95, 105, 109, 112, 111, 114, 116, 108, 105, 98, 46, 66, 117, 105, 108, 116, 105, 110, 73, 109, 112, 111, 114, 116, 101, 114, 46, 101, 120, 101, 99, 95, 109, 111, 100, 117, 108, 101, 35, 111, 112, 97, 113, 117, 101, 6, 196, 8, 103, 101, 116, 95, 99, 111, 100, 101, 9, 49, 95, 102, 114, 111, 122, 101, 110, 95, 105, 109, 112, 111, 114, 116, 108, 105, 98, 46, 66, 117, 105, 108, 116, 105, 110, 73, 109, 112, 111, 114, 116, 101, 114, 46, 103, 101, 116, 95, 99, 111, 100, 101, 35, 111, 112, 97, 113, 117, 101, 6, 197, 10, 103, 101, 116, 95, 115, 111, 117, 114, 99, 101, 9, 51, 95, 102, 114, 111, 122, 101, 110, 95, 105, 109, 112, 111, 114, 116, 108, 105, 98, 46, 66, 117, 105, 108, 116, 105, 110, 73, 109, 112, 111, 114, 116, 101, 114, 46, 103, 101, 116, 95, 115, 111, 117, 114, 99, 101, 35, 111, 112, 97, 113, 117, 101, 6, 198, 10, 105, 115, 95, 112, 97, 99, 107, 97, 103, 101, 9, 51, 95, 102, 114, 111, 122, 101, 110, 95, 105, 109, 112, 111, 114, 116, 108, 105, 98, 46, 66, 117, 105, 108, 116, 105, 110, 73, 109, 112, 111, 114, 116, 101, 114, 46, 105, 115, 95, 112, 97, 99, 107, 97, 103, 101, 35, 111, 112, 97, 113, 117, 101, 6, 199, 11, 108, 111, 97, 100, 95, 109, 111, 100, 117, 108, 101, 9, 52, 95, 102, 114, 111, 122, 101, 110, 95, 105, 109, 112, 111, 114, 116, 108, 105, 98, 46, 66, 117, 105, 108, 116, 105, 110, 73, 109, 112, 111, 114, 116, 101, 114, 46, 108, 111, 97, 100, 95, 109, 111, 100, 117, 108, 101, 35, 111, 112, 97, 113, 117, 101, 6, 200, 21, 95, 95, 115, 116, 97, 116, 105, 99, 95, 97, 116, 116, 114, 105, 98, 117, 116, 101, 115, 95, 95, 4, 0, 0, 15, 6, 202, 8, 95, 95, 100, 105, 99, 116, 95, 95, 4, 0, 0, 16, 6, 204, 11, 95, 95, 119, 101, 97, 107, 114, 101, 102, 95, 95, 4, 0, 0, 17]) 0), (.bool true), (.bool true), (.str (Str.ofString "") 205), (.int 21 0), (.str (Str.mk #[6, 227, 10, 95, 95, 109, 111, 100, 117, 108, 101, 95, 95, 6, 217, 17, 95, 102, 114, 111, 122, 101, 110, 95, 105, 109, 112, 111, 114, 116, 108, 105, 98, 6, 228, 15, 95, 95, 102, 105, 114, 115, 116, 108, 105, 110, 101, 110, 111, 95, 95, 4, 218, 0, 562, 6, 229, 7, 95, 95, 100, 111, 99, 95, 95, 9, 47, 95, 102, 114, 111, 122, 101, 110, 95, 105, 109, 112, 111, 114, 116, 108, 105, 98, 46, 77, 111, 100, 117, 108, 101, 83, 112, 101, 99, 46, 95, 95, 100, 111, 99, 95, 95, 58, 115, 116, 114, 35, 111, 112, 97, 113, 117, 101, 6, 230, 8, 95, 95, 105, 110, 105, 116, 95, 95, 9, 44, 95, 102, 114, 111, 122, 101, 110, 95, 105, 109, 112, 111, 114, 116, 108, 105, 98, 46, 77, 111, 100, 117, 108, 101, 83, 112, 101, 99, 46, 95, 95, 105, 110, 105, 116, 95, 95, 35, 111, 112, 97, 113, 117, 101, 6, 231, 8, 95, 95, 114, 101, 112, 114, 95, 95, 9, 44, 95, 102, 114, 111, 122, 101, 110, 95, 105, 109, 112, 111, 114, 116, 108, 105, 98, 46, 77, 111, 100, 117, 108, 101, 83, 112, 101, 99, 46, 95, 95, 114, 101, 112, 114, 95, 95, 35, 111, 112, 97, 113, 117, 101, 6, 232, 6, 95, 95, 101, 113, 95, 95, 9, 42, 95, 102, 114, 111, 122, 101, 110, 95, 105, 109, 112, 111, 114, 116, 108, 105, 98, 46, 77, 111, 100, 117, 108, 101, 83, 112, 101, 99, 46, 95, 95, 101, 113, 95, 95, 35, 111, 112, 97, 113, 117, 101, 6, 233, 6, 99, 97, 99, 104, 101, 100, 9, 42, 95, 102, 114, 111, 122, 101, 110, 95, 105, 109, 112, 111, 114, 116, 108, 105, 98, 46, 77, 111, 100, 117, 108, 101, 83, 112, 101, 99, 46, 99, 97, 99, 104, 101, 100, 35, 111, 112, 97, 113, 117, 101, 6, 234, 6, 112, 97, 114, 101, 110, 116, 9, 42, 95, 102, 114, 111, 122, 101, 110, 95, 105, 109, 112, 111, 114, 116, 108, 105, 98, 46, 77, 111, 100, 117, 108, 101, 83, 112, 101, 99, 46, 112, 97, 114, 101, 110, 116, 35, 111, 112, 97, 113, 117, 101, 6, 235, 12, 104, 97, 115, 95, 108, 111, 99, 97, 116, 105, 111, 110, 9, 48, 95, 102, 114, 111, 122, 101, 110, 95, 105, 109, 112, 111, 114, 116, 108, 105, 98, 46, 77, 111, 100, 117, 108, 101, 83, 112, 101, 99, 46, 104, 97, 115, 95, 108, 111, 99, 97, 116, 105, 111, 110, 35, 111, 112, 97, 113, 117, 101, 6, 236, 21, 95, 95, 115, 116, 97, 116, 105, 99, 95, 97, 116, 116, 114, 105, 98, 117, 116, 101, 115, 95, 95, 4, 0, 0, 23, 6, 238, 8, 95, 95, 100, 105, 99, 116, 95, 95, 4, 0, 0, 24, 6, 240, 11, 95, 95, 119, 101, 97, 107, 114, 101, 102, 95, 95, 4, 0, 0, 25, 6, 241, 8, 95, 95, 104, 97, 115, 104, 95, 95, 0]) 0), (.bool true), (.bool true), (.str (Str.ofString "") 242)] 1), #[]⟩
noncomputable def o19v0 (P : Params) : Obj := ⟨(.type "list"), none, (.seq #[] 0), #[]⟩
noncomputable def o20v0 (P : Params) : Obj := ⟨(.type "dict"), none, (.dict #[ent P (Str.ofString "name") 208 (.str (Str.ofString "_sre") 207), ent P (Str.ofString "loader") 209 (.ref 14), ent P (Str.ofString "origin") 210 (.str (Str.ofString "built-in") 184), ent P (Str.ofString "loader_state") 211 .none, ent P (Str.ofString "submodule_search_locations") 212 .none, ent P (Str.ofString "_uninitialized_submodules") 213 (.ref 19), ent P (Str.ofString "_set_fileattr") 214 (.bool false), ent P (Str.ofString "_cached") 215 .none, ent P (Str.ofString "_initializing") 243 (.bool false)] 9), #[]⟩
noncomputable def o21v0 (P : Params) : Obj := ⟨(.type "dict"), none, (.dict #[ent P (Str.ofString "__module__") 227 (.str (Str.ofString "_frozen_importlib") 217), ent P (Str.ofString "__firstlineno__") 228 (.int 562 218), ent P (Str.ofString "__doc__") 229 (.builtin "_frozen_importlib.ModuleSpec.__doc__:str#opaque"), ent P (Str.ofString "__init__") 230 (.builtin "_frozen_importlib.ModuleSpec.__init__#opaque"), ent P (Str.ofString "__repr__") 231 (.builtin "_frozen_importlib.ModuleSpec.__repr__#opaque"), ent P (Str.ofString "__eq__") 232 (.builtin "_frozen_importlib.ModuleSpec.__eq__#opaque"), ent P (Str.ofString "cached") 233 (.builtin "_frozen_importlib.ModuleSpec.cached#opaque"), ent P (Str.ofString "parent") 234 (.builtin "_frozen_importlib.ModuleSpec.parent#opaque"), ent P (Str.ofString "has_location") 235 (.builtin "_frozen_importlib.ModuleSpec.has_location#opaque"), ent P (Str.ofString "__static_attributes__") 236 (.ref 23), ent P (Str.ofString "__dict__") 238 (.ref 24), ent P (Str.ofString "__weakref__") 240 (.ref 25), ent P (Str.ofString "__hash__") 241 .none] 13), #[]⟩
noncomputable def o22v0 (P : Params) : Obj := ⟨(.type "type"), none, (.cls { name := (Str.ofString "ModuleSpec"), bases := [(.type "object")], mro := [(.ref 22), (.type "object")], ns := 21, qualname := (Str.ofString "ModuleSpec"), hasDict := true, slotNames := [], subclasses := [], abstract := false, collection := none, hasDel := false }), #[]⟩
noncomputable def o23v0 (P : Params) : Obj := ⟨(.type "tuple"), none, (.seq #[(.str (Str.ofString "_cached") 219), (.str (Str.ofString "_set_fileattr") 220), (.str (Str.ofString "_uninitialized_submodules") 221), (.str (Str.ofString "loader") 222), (.str (Str.ofString "loader_state") 223), (.str (Str.ofString "name") 224), (.str (Str.ofString "origin") 225), (.str (Str.ofString "submodule_search_locations") 226)] 0), #[]⟩
noncomputable def o24v0 (P : Params) : Obj := ⟨(.type "getset_descriptor"), none, (.fields #[(.str (Str.ofString "__dict__") 237), (.ref 22), (.builtin "function.__dict__"), (.builtin "function.__dict__#set")]), #[]⟩
noncomputable def o25v0 (P : Params) : Obj := ⟨(.type "getset_descriptor"), none, (.fields #[(.str (Str.ofString "__weakref__") 239), (.ref 22), (.builtin "ExceptionGroup.__weakref__"), .none]), #[]⟩
noncomputable def o26v0 (P : Params) : Obj := ⟨(.ref 22), (some 20), .plain, #[]⟩
noncomputable def o27v0 (P : Params) : Obj := ⟨.none, none, (.seq #[(.int 11 0), (.str (Str.mk #[6, 247, 8, 95, 95, 110, 97, 109, 101, 95, 95, 6, 246, 4, 95, 115, 114, 101, 6, 248, 7, 95, 95, 100, 111, 99, 95, 95, 0, 6, 250, 11, 95, 95, 112, 97, 99, 107, 97, 103, 101, 95, 95, 6, 249, 0, 6, 251, 10, 95, 95, 108, 111, 97, 100, 101, 114, 95, 95, 4, 0, 0, 14, 6, 252, 8, 95, 95, 115, 112, 101, 99, 95, 95, 4, 0, 0, 26, 6, 253, 7, 99, 111, 109, 112, 105, 108, 101, 9, 12, 95, 115, 114, 101, 46, 99, 111, 109, 112, 105, 108, 101, 6, 254, 8, 116, 101, 109, 112, 108, 97, 116, 101, 9, 13, 95, 115, 114, 101, 46, 116, 101, 109, 112, 108, 97, 116, 101, 6, 255, 11, 103, 101, 116, 99, 111, 100, 101, 115, 105, 122, 101, 9, 16, 95, 115, 114, 101, 46, 103, 101, 116, 99, 111, 100, 101, 115, 105, 122, 101, 6, 256, 13, 97, 115, 99, 105, 105, 95, 105, 115, 99, 97, 115, 101, 100, 9, 18, 95, 115, 114, 101, 46, 97, 115, 99, 105, 105, 95, 105, 115, 99, 97, 115, 101, 100, 6, 257, 15, 117, 110, 105, 99, 111, 100, 101, 95, 105, 115, 99, 97, 115, 101, 100, 9, 20, 95, 115, 114, 101, 46, 117, 110, 105, 99, 111, 100, 101, 95, 105, 115, 99, 97, 115, 101, 100, 6, 258, 13, 97, 115, 99, 105, 105, 95, 116, 111, 108, 111, 119, 101, 114, 9, 18, 95, 115, 114, 101, 46, 97, 115, 99, 105, 105, 95, 116, 111, 108, 111, 119, 101, 114, 6, 259, 15, 117, 110, 105, 99, 111, 100, 101, 95, 116, 111, 108, 111, 119, 101, 114, 9, 20, 95, 115, 114, 101, 46, 117, 110, 105, 99, 111, 100, 101, 95, 116, 111, 108, 111, 119, 101, 114, 6, 261, 5, 77, 65, 71, 73, 67, 4, 260, 0, 20230612, 6, 263, 8, 67, 79, 68, 69, 83, 73, 90, 69, 4, 262, 0, 4, 6, 265, 9, 77, 65, 88, 82, 69, 80, 69, 65, 84, 4, 264, 0, 4294967295, 6, 267, 9, 77, 65, 88, 71, 82, 79, 85, 80, 83, 4, 266, 0, 1073741823, 6, 269, 9, 99, 111, 112, 121, 114, 105, 103, 104, 116, 6, 268, 53, 32, 83, 82, 69, 32, 50, 46, 50, 46, 50, 32, 67, 111, 112, 121, 114, 105, 103, 104, 116, 32, 40, 99, 41, 32, 49, 57, 57, 55, 45, 50, 48, 48, 50, 32, 98, 121, 32, 83, 101, 99, 114, 101, 116, 32, 76, 97, 98, 115, 32, 65, 66, 32]) 0), (.bool true), (.bool false), (.str (Str.ofString "_sre") 271)] 0), #[]⟩
noncomputable def T0 (P : Params) : BT := (.node (boot_o_0 P) (.node (o1v0 P) (.node (o3v0 P) (.node (boot_o_7 P) (.node (o15v0 P) .nil .nil) (.node (o23v0 P) .nil .nil)) (.node (o11v0 P) (.node (o19v0 P) .nil .nil) (.node (o27v0 P) .nil .nil))) (.node (boot_o_5 P) (.node (boot_o_9 P) (.node (o17v0 P) .nil .nil) (.node (o25v0 P) .nil .nil)) (.node (o13v0 P) (.node (o21v0 P) .nil .nil) .nil))) (.node (o2v0 P) (.node (boot_o_4 P) (.node (boot_o_8 P) (.node (o16v0 P) .nil .nil) (.node (o24v0 P) .nil .nil)) (.node (o12v0 P) (.node (o20v0 P) .nil .nil) .nil)) (.node (boot_o_6 P) (.node (boot_o_10 P) (.node (o18v0 P) .nil .nil) (.node (o26v0 P) .nil .nil)) (.node (o14v0 P) (.node (o22v0 P) .nil .nil) .nil))))
noncomputable def L0 (P : Params) : List Obj := [boot_o_0 P, o1v0 P, o2v0 P, o3v0 P, boot_o_4 P, boot_o_5 P, boot_o_6 P, boot_o_7 P, boot_o_8 P, boot_o_9 P, boot_o_10 P, o11v0 P, o12v0 P, o13v0 P, o14v0 P, o15v0 P, o16v0 P, o17v0 P, o18v0 P, o19v0 P, o20v0 P, o21v0 P, o22v0 P, o23v0 P, o24v0 P, o25v0 P, o26v0 P, o27v0 P]
noncomputable def n0 : Nat := 28
noncomputable def k0 : Nat := 276
noncomputable def o28va (P : Params) : Obj := ⟨(.type "tuple"), none, (.seq #[] 0), #[]⟩
noncomputable def o29va (P : Params) : Obj := ⟨.none, none, (.fields #[]), #[]⟩
noncomputable def o30va (P : Params) : Obj := ⟨(.type "code"), none, (.fields #[(.str (Str.ofString "<module>") 277), (.str (Str.ofString "<module>") 278), (.str (Str.ofString "/claim/cut.py") 279), (.int 1 0), (.int 0 0), (.int 0 0), (.int 0 0), (.int 0 0), (.ref 28), (.bool false), (.int 276 0), (.ref 29), .none, .none, .none, .none, (.int 280 0), (.int 1 0), (.str (Str.ofString "/claim/cut.py") 281)]), #[]⟩
noncomputable def o31va (P : Params) : Obj := ⟨(.type "frame"), none, .plain, #[(some (.ref 30)), (some (.ref 3)), (some (.ref 3)), none, (some (.str (Str.ofString "__main__") 164)), none, (some (.ref 0))]⟩
noncomputable def Ta (P : Params) : BT := (.node (boot_o_0 P) (.node (o1v0 P) (.node (o3v0 P) (.node (boot_o_7 P) (.node (o15v0 P) (.node (o31va P) .nil .nil) .nil) (.node (o23v0 P) .nil .nil)) (.node (o11v0 P) (.node (o19v0 P) .nil .nil) (.node (o27v0 P) .nil .nil))) (.node (boot_o_5 P) (.node (boot_o_9 P) (.node (o17v0 P) .nil .nil) (.node (o25v0 P) .nil .nil)) (.node (o13v0 P) (.node (o21v0 P) .nil .nil) (.node (o29va P) .nil .nil)))) (.node (o2v0 P) (.node (boot_o_4 P) (.node (boot_o_8 P) (.node (o16v0 P) .nil .nil) (.node (o24v0 P) .nil .nil)) (.node (o12v0 P) (.node (o20v0 P) .nil .nil) (.node (o28va P) .nil .nil))) (.node (boot_o_6 P) (.node (boot_o_10 P) (.node (o18v0 P) .nil .nil) (.node (o26v0 P) .nil .nil)) (.node (o14v0 P) (.node (o22v0 P) .nil .nil) (.node (o30va P) .nil .nil)))))
noncomputable def La (P : Params) : List Obj := [boot_o_0 P, o1v0 P, o2v0 P, o3v0 P, boot_o_4 P, boot_o_5 P, boot_o_6 P, boot_o_7 P, boot_o_8 P, boot_o_9 P, boot_o_10 P, o11v0 P, o12v0 P, o13v0 P, o14v0 P, o15v0 P, o16v0 P, o17v0 P, o18v0 P, o19v0 P, o20v0 P, o21v0 P, o22v0 P, o23v0 P, o24v0 P, o25v0 P, o26v0 P, o27v0 P, o28va P, o29va P, o30va P, o31va P]
noncomputable def na : Nat := 32
noncomputable def ka : Nat := 282
noncomputable def Tb (P : Params) : BT := (.node (boot_o_0 P) (.node (o1v0 P) (.node (o3v0 P) (.node (boot_o_7 P) (.node (o15v0 P) (.node (o31va P) .nil .nil) .nil) (.node (o23v0 P) .nil .nil)) (.node (o11v0 P) (.node (o19v0 P) .nil .nil) (.node (o27v0 P) .nil .nil))) (.node (boot_o_5 P) (.node (boot_o_9 P) (.node (o17v0 P) .nil .nil) (.node (o25v0 P) .nil .nil)) (.node (o13v0 P) (.node (o21v0 P) .nil .nil) (.node (o29va P) .nil .nil)))) (.node (o2v0 P) (.node (boot_o_4 P) (.node (boot_o_8 P) (.node (o16v0 P) .nil .nil) (.node (o24v0 P) .nil .nil)) (.node (o12v0 P) (.node (o20v0 P) .nil .nil) (.node (o28va P) .nil .nil))) (.node (boot_o_6 P) (.node (boot_o_10 P) (.node (o18v0 P) .nil .nil) (.node (o26v0 P) .nil .nil)) (.node (o14v0 P) (.node (o22v0 P) .nil .nil) (.node (o30va P) .nil .nil)))))
noncomputable def Lb (P : Params) : List Obj := [boot_o_0 P, o1v0 P, o2v0 P, o3v0 P, boot_o_4 P, boot_o_5 P, boot_o_6 P, boot_o_7 P, boot_o_8 P, boot_o_9 P, boot_o_10 P, o11v0 P, o12v0 P, o13v0 P, o14v0 P, o15v0 P, o16v0 P, o17v0 P, o18v0 P, o19v0 P, o20v0 P, o21v0 P, o22v0 P, o23v0 P, o24v0 P, o25v0 P, o26v0 P, o27v0 P, o28va P, o29va P, o30va P, o31va P]
noncomputable def nb : Nat := 32
noncomputable def kb : Nat := 282
noncomputable def o3v1 (P : Params) : Obj := ⟨(.type "dict"), none, (.dict #[ent P (Str.ofString "__name__") 165 (.str (Str.ofString "cpy313.stringprep") 351), ent P (Str.ofString "__doc__") 166 .none, ent P (Str.ofString "__package__") 167 .none, ent P (Str.ofString "__loader__") 168 (.builtin "__main__.__loader__#opaque"), ent P (Str.ofString "__spec__") 169 .none, ent P (Str.ofString "__annotations__") 170 (.ref 6), ent P (Str.ofString "__builtins__") 171 (.ref 4), ent P (Str.ofString "__file__") 173 (.str (Str.ofString "/claim/cut.py") 172), ent P (Str.ofString "__cached__") 174 .none, ent P (Str.ofString "_sre") 275 (.ref 12), ent P (Str.ofString "_twin_re_1") 299 (.ref 36), ent P (Str.ofString "_twin_re_2") 341 (.ref 41), ent P (Str.ofString "CRLF") 343 (.str (Str.mk #[13, 10]) 342), ent P (Str.ofString "quotedata") 350 (.ref 48)] 14), #[]⟩
noncomputable def o29v1 (P : Params) : Obj := ⟨.none, none, (.fields #[(.int 6 0), (.int 0 0), (.ref 47)]), #[]⟩
noncomputable def o32v1 (P : Params) : Obj := ⟨(.type "list"), none, (.seq #[(.int 14 287), (.int 4 288), (.int 0 289), (.int 1 290), (.int 1 291), (.int 6 292), (.int 1 293), (.int 16 294), (.int 46 295), (.int 1 296)] 0), #[]⟩
noncomputable def o33v1 (P : Params) : Obj := ⟨(.type "dict"), none, (.dict #[] 0), #[]⟩
noncomputable def o34v1 (P : Params) : Obj := ⟨(.type "tuple"), none, (.seq #[.none] 0), #[]⟩
noncomputable def o35v1 (P : Params) : Obj := ⟨(.type "tuple"), none, (.seq #[(.int 14 0), (.int 4 0), (.int 0 0), (.int 1 0), (.int 1 0), (.int 6 0), (.int 1 0), (.int 16 0), (.int 46 0), (.int 1 0)] 0), #[]⟩
noncomputable def o36v1 (P : Params) : Obj := ⟨(.type "re.Pattern"), none, (.fields #[(.str (Str.mk #[40, 63, 109, 41, 94, 92, 46]) 285), (.int 40 298), (.int 0 0), .none, .none, (.ref 35), (.int 0 0)]), #[]⟩
noncomputable def o37v1 (P : Params) : Obj := ⟨(.type "list"), none, (.seq #[(.int 14 303), (.int 9 304), (.int 4 305), (.int 1 306), (.int 2 307), (.int 16 308), (.int 10 309), (.int 16 310), (.int 13 311), (.int 0 312), (.int 7 313), (.int 7 314), (.int 16 315), (.int 13 316), (.int 16 317), (.int 10 318), (.int 15 319), (.int 18 320), (.int 5 321), (.int 16 322), (.int 10 323), (.int 15 324), (.int 13 325), (.int 11 326), (.int 16 327), (.int 13 328), (.int 5 329), (.int 5 330), (.int 0 331), (.int 16 332), (.int 10 333), (.int 1 334), (.int 15 335), (.int 2 336), (.int 0 337), (.int 1 338)] 0), #[]⟩
noncomputable def o38v1 (P : Params) : Obj := ⟨(.type "dict"), none, (.dict #[] 0), #[]⟩
noncomputable def o39v1 (P : Params) : Obj := ⟨(.type "tuple"), none, (.seq #[.none] 0), #[]⟩
noncomputable def o40v1 (P : Params) : Obj := ⟨(.type "tuple"), none, (.seq #[(.int 14 0), (.int 9 0), (.int 4 0), (.int 1 0), (.int 2 0), (.int 16 0), (.int 10 0), (.int 16 0), (.int 13 0), (.int 0 0), (.int 7 0), (.int 7 0), (.int 16 0), (.int 13 0), (.int 16 0), (.int 10 0), (.int 15 0), (.int 18 0), (.int 5 0), (.int 16 0), (.int 10 0), (.int 15 0), (.int 13 0), (.int 11 0), (.int 16 0), (.int 13 0), (.int 5 0), (.int 5 0), (.int 0 0), (.int 16 0), (.int 10 0), (.int 1 0), (.int 15 0), (.int 2 0), (.int 0 0), (.int 1 0)] 0), #[]⟩
noncomputable def o41v1 (P : Params) : Obj := ⟨(.type "re.Pattern"), none, (.fields #[(.str (Str.mk #[40, 63, 58, 92, 114, 92, 110, 124, 92, 110, 124, 92, 114, 40, 63, 33, 92, 110, 41, 41]) 301), (.int 32 340), (.int 0 0), .none, .none, (.ref 40), (.int 0 0)]), #[]⟩
noncomputable def o42v1 (P : Params) : Obj := ⟨(.type "tuple"), none, (.seq #[] 0), #[]⟩
noncomputable def o43v1 (P : Params) : Obj := ⟨.none, none, (.fields #[]), #[]⟩
noncomputable def o44v1 (P : Params) : Obj := ⟨(.type "tuple"), none, (.seq #[(.str (Str.ofString "data") 347)] 0), #[]⟩
noncomputable def o45v1 (P : Params) : Obj := ⟨(.type "tuple"), none, (.seq #[] 0), #[]⟩
noncomputable def o46v1 (P : Params) : Obj := ⟨.none, none, (.func (fnData 5 (Str.ofString "quotedata") (Str.ofString "quotedata") 0 [] .none .none .none .none none .none .none 0)), #[]⟩
noncomputable def o47v1 (P : Params) : Obj := ⟨(.type "code"), none, (.fields #[(.str (Str.ofString "quotedata") 344), (.str (Str.ofString "quotedata") 345), (.str (Str.ofString "/claim/cut.py") 346), (.int 6 0), (.int 1 0), (.int 0 0), (.int 0 0), (.int 3 0), (.ref 42), (.bool true), (.int 276 0), (.ref 43), .none, (.ref 44), (.ref 45), (.ref 46), (.int 348 0), (.int 6 0), (.str (Str.ofString "/claim/cut.py") 349)]), #[]⟩
noncomputable def o48v1 (P : Params) : Obj := ⟨(.type "function"), none, (.func (fnData 5 (Str.ofString "quotedata") (Str.ofString "quotedata") 3 [] .none .none .none (.str (Str.ofString "cpy313.smtplib") 282) none (.ref 47) .none 0)), #[]⟩
noncomputable def T1 (P : Params) : BT := (.node (boot_o_0 P) (.node (o1v0 P) (.node (o3v1 P) (.node (boot_o_7 P) (.node (o15v0 P) (.node (o31va P) .nil .nil) (.node (o47v1 P) .nil .nil)) (.node (o23v0 P) (.node (o39v1 P) .nil .nil) .nil)) (.node (o11v0 P) (.node (o19v0 P) (.node (o35v1 P) .nil .nil) .nil) (.node (o27v0 P) (.node (o43v1 P) .nil .nil) .nil))) (.node (boot_o_5 P) (.node (boot_o_9 P) (.node (o17v0 P) (.node (o33v1 P) .nil .nil) .nil) (.node (o25v0 P) (.node (o41v1 P) .nil .nil) .nil)) (.node (o13v0 P) (.node (o21v0 P) (.node (o37v1 P) .nil .nil) .nil) (.node (o29v1 P) (.node (o45v1 P) .nil .nil) .nil)))) (.node (o2v0 P) (.node (boot_o_4 P) (.node (boot_o_8 P) (.node (o16v0 P) (.node (o32v1 P) .nil .nil) (.node (o48v1 P) .nil .nil)) (.node (o24v0 P) (.node (o40v1 P) .nil .nil) .nil)) (.node (o12v0 P) (.node (o20v0 P) (.node (o36v1 P) .nil .nil) .nil) (.node (o28va P) (.node (o44v1 P) .nil .nil) .nil))) (.node (boot_o_6 P) (.node (boot_o_10 P) (.node (o18v0 P) (.node (o34v1 P) .nil .nil) .nil) (.node (o26v0 P) (.node (o42v1 P) .nil .nil) .nil)) (.node (o14v0 P) (.node (o22v0 P) (.node (o38v1 P) .nil .nil) .nil) (.node (o30va P) (.node (o46v1 P) .nil .nil) .nil)))))
noncomputable def L1 (P : Params) : List Obj := [boot_o_0 P, o1v0 P, o2v0 P, o3v1 P, boot_o_4 P, boot_o_5 P, boot_o_6 P, boot_o_7 P, boot_o_8 P, boot_o_9 P, boot_o_10 P, o11v0 P, o12v0 P, o13v0 P, o14v0 P, o15v0 P, o16v0 P, o17v0 P, o18v0 P, o19v0 P, o20v0 P, o21v0 P, o22v0 P, o23v0 P, o24v0 P, o25v0 P, o26v0 P, o27v0 P, o28va P, o29v1 P, o30va P, o31va P, o32v1 P, o33v1 P, o34v1 P, o35v1 P, o36v1 P, o37v1 P, o38v1 P, o39v1 P, o40v1 P, o41v1 P, o42v1 P, o43v1 P, o44v1 P, o45v1 P, o46v1 P, o47v1 P, o48v1 P]
noncomputable def n1 : Nat := 49
noncomputable def k1 : Nat := 353
noncomputable def o3v2 (P : Params) : Obj := ⟨(.type "dict"), none, (.dict #[ent P (Str.ofString "__name__") 165 (.str (Str.ofString "cpy313.stringprep") 351), ent P (Str.ofString "__doc__") 166 .none, ent P (Str.ofString "__package__") 167 .none, ent P (Str.ofString "__loader__") 168 (.builtin "__main__.__loader__#opaque"), ent P (Str.ofString "__spec__") 169 .none, ent P (Str.ofString "__annotations__") 170 (.ref 6), ent P (Str.ofString "__builtins__") 171 (.ref 4), ent P (Str.ofString "__file__") 173 (.str (Str.ofString "/claim/cut.py") 172), ent P (Str.ofString "__cached__") 174 .none, ent P (Str.ofString "_sre") 275 (.ref 12), ent P (Str.ofString "_twin_re_1") 299 (.ref 36), ent P (Str.ofString "_twin_re_2") 341 (.ref 41), ent P (Str.ofString "CRLF") 343 (.str (Str.mk #[13, 10]) 342), ent P (Str.ofString "quotedata") 350 (.ref 48), ent P (Str.ofString "b1_set") 412 (.ref 56), ent P (Str.ofString "in_table_b1") 419 (.ref 66)] 16), #[]⟩
noncomputable def o29v2 (P : Params) : Obj := ⟨.none, none, (.fields #[(.int 6 0), (.int 0 0), (.ref 47), (.int 10 0), (.int 0 0), (.ref 65)]), #[]⟩
noncomputable def o49v2 (P : Params) : Obj := ⟨(.type "list"), none, (.seq #[(.int 173 353), (.int 847 354), (.int 6150 355), (.int 6155 356), (.int 6156 357), (.int 6157 358), (.int 8203 359), (.int 8204 360), (.int 8205 361), (.int 8288 362), (.int 65279 363)] 0), #[]⟩
noncomputable def o50v2 (P : Params) : Obj := ⟨(.type "range"), none, (.fields #[(.int 65024 364), (.int 65040 365), (.int 1 366)]), #[]⟩
noncomputable def o51v2 (P : Params) : Obj := ⟨(.type "list"), none, (.seq #[(.int 65024 369), (.int 65025 370), (.int 65026 371), (.int 65027 372), (.int 65028 373), (.int 65029 374), (.int 65030 375), (.int 65031 376), (.int 65032 377), (.int 65033 378), (.int 65034 379), (.int 65035 380), (.int 65036 381), (.int 65037 382), (.int 65038 383), (.int 65039 384)] 18), #[]⟩
noncomputable def o52v2 (P : Params) : Obj := ⟨(.type "range_iterator"), none, (.fields #[(.int 65040 0), (.int 0 0), (.int 1 0)]), #[]⟩
noncomputable def o53v2 (P : Params) : Obj := ⟨(.type "tuple"), none, (.seq #[] 0), #[]⟩
noncomputable def o54v2 (P : Params) : Obj := ⟨(.type "StopIteration"), none, (.fields #[(.ref 53), .none, .none, .none, (.bool false), .none]), #[]⟩
noncomputable def o55v2 (P : Params) : Obj := ⟨(.type "list"), none, (.seq #[(.int 173 353), (.int 847 354), (.int 6150 355), (.int 6155 356), (.int 6156 357), (.int 6157 358), (.int 8203 359), (.int 8204 360), (.int 8205 361), (.int 8288 362), (.int 65279 363), (.int 65024 369), (.int 65025 370), (.int 65026 371), (.int 65027 372), (.int 65028 373), (.int 65029 374), (.int 65030 375), (.int 65031 376), (.int 65032 377), (.int 65033 378), (.int 65034 379), (.int 65035 380), (.int 65036 381), (.int 65037 382), (.int 65038 383), (.int 65039 384)] 0), #[]⟩
noncomputable def o56v2 (P : Params) : Obj := ⟨(.type "set"), none, (.set #[(65024, (.int 65024 369)), (65025, (.int 65025 370)), (65026, (.int 65026 371)), (65027, (.int 65027 372)), (65028, (.int 65028 373)), (65029, (.int 65029 374)), (6150, (.int 6150 355)), (65030, (.int 65030 375)), (65031, (.int 65031 376)), (65032, (.int 65032 377)), (65033, (.int 65033 378)), (6155, (.int 6155 356)), (6156, (.int 6156 357)), (6157, (.int 6157 358)), (8203, (.int 8203 359)), (8204, (.int 8204 360)), (8205, (.int 8205 361)), (65034, (.int 65034 379)), (65035, (.int 65035 380)), (65036, (.int 65036 381)), (65037, (.int 65037 382)), (65038, (.int 65038 383)), (65039, (.int 65039 384)), (173, (.int 173 353)), (847, (.int 847 354)), (8288, (.int 8288 362)), (65279, (.int 65279 363))] 29 ⟨127, #[0, 1, 2, 3, 4, 5, 6, 7, 8, 9, 10, 11, 12, 13, 14, 15, 16, 17, 18, 19, 20, 21, 22, 45, 79, 96, 127], #[], 0, !P.followText "set-order", 2, true⟩), #[]⟩
noncomputable def o57v2 (P : Params) : Obj := ⟨(.type "list_iterator"), none, (.fields #[.none, (.int 27 0)]), #[]⟩
noncomputable def o58v2 (P : Params) : Obj := ⟨(.type "tuple"), none, (.seq #[] 0), #[]⟩
noncomputable def o59v2 (P : Params) : Obj := ⟨(.type "StopIteration"), none, (.fields #[(.ref 58), .none, .none, .none, (.bool false), .none]), #[]⟩
noncomputable def o60v2 (P : Params) : Obj := ⟨(.type "tuple"), none, (.seq #[] 0), #[]⟩
noncomputable def o61v2 (P : Params) : Obj := ⟨.none, none, (.fields #[]), #[]⟩
noncomputable def o62v2 (P : Params) : Obj := ⟨(.type "tuple"), none, (.seq #[(.str (Str.ofString "code") 416)] 0), #[]⟩
noncomputable def o63v2 (P : Params) : Obj := ⟨(.type "tuple"), none, (.seq #[] 0), #[]⟩
noncomputable def o64v2 (P : Params) : Obj := ⟨.none, none, (.func (fnData 8 (Str.ofString "in_table_b1") (Str.ofString "in_table_b1") 0 [] .none .none .none .none none .none .none 0)), #[]⟩
noncomputable def o65v2 (P : Params) : Obj := ⟨(.type "code"), none, (.fields #[(.str (Str.ofString "in_table_b1") 413), (.str (Str.ofString "in_table_b1") 414), (.str (Str.ofString "/claim/cut.py") 415), (.int 10 0), (.int 1 0), (.int 0 0), (.int 0 0), (.int 3 0), (.ref 60), (.bool true), (.int 276 0), (.ref 61), .none, (.ref 62), (.ref 63), (.ref 64), (.int 417 0), (.int 10 0), (.str (Str.ofString "/claim/cut.py") 418)]), #[]⟩
noncomputable def o66v2 (P : Params) : Obj := ⟨(.type "function"), none, (.func (fnData 8 (Str.ofString "in_table_b1") (Str.ofString "in_table_b1") 3 [] .none .none .none (.str (Str.ofString "cpy313.stringprep") 351) none (.ref 65) .none 0)), #[]⟩
noncomputable def T2 (P : Params) : BT := (.node (boot_o_0 P) (.node (o1v0 P) (.node (o3v2 P) (.node (boot_o_7 P) (.node (o15v0 P) (.node (o31va P) (.node (o63v2 P) .nil .nil) .nil) (.node (o47v1 P) .nil .nil)) (.node (o23v0 P) (.node (o39v1 P) .nil .nil) (.node (o55v2 P) .nil .nil))) (.node (o11v0 P) (.node (o19v0 P) (.node (o35v1 P) .nil .nil) (.node (o51v2 P) .nil .nil)) (.node (o27v0 P) (.node (o43v1 P) .nil .nil) (.node (o59v2 P) .nil .nil)))) (.node (boot_o_5 P) (.node (boot_o_9 P) (.node (o17v0 P) (.node (o33v1 P) (.node (o65v2 P) .nil .nil) .nil) (.node (o49v2 P) .nil .nil)) (.node (o25v0 P) (.node (o41v1 P) .nil .nil) (.node (o57v2 P) .nil .nil))) (.node (o13v0 P) (.node (o21v0 P) (.node (o37v1 P) .nil .nil) (.node (o53v2 P) .nil .nil)) (.node (o29v2 P) (.node (o45v1 P) .nil .nil) (.node (o61v2 P) .nil .nil))))) (.node (o2v0 P) (.node (boot_o_4 P) (.node (boot_o_8 P) (.node (o16v0 P) (.node (o32v1 P) (.node (o64v2 P) .nil .nil) .nil) (.node (o48v1 P) .nil .nil)) (.node (o24v0 P) (.node (o40v1 P) .nil .nil) (.node (o56v2 P) .nil .nil))) (.node (o12v0 P) (.node (o20v0 P) (.node (o36v1 P) .nil .nil) (.node (o52v2 P) .nil .nil)) (.node (o28va P) (.node (o44v1 P) .nil .nil) (.node (o60v2 P) .nil .nil)))) (.node (boot_o_6 P) (.node (boot_o_10 P) (.node (o18v0 P) (.node (o34v1 P) (.node (o66v2 P) .nil .nil) .nil) (.node (o50v2 P) .nil .nil)) (.node (o26v0 P) (.node (o42v1 P) .nil .nil) (.node (o58v2 P) .nil .nil))) (.node (o14v0 P) (.node (o22v0 P) (.node (o38v1 P) .nil .nil) (.node (o54v2 P) .nil .nil)) (.node (o30va P) (.node (o46v1 P) .nil .nil) (.node (o62v2 P) .nil .nil))))))
noncomputable def L2 (P : Params) : List Obj := [boot_o_0 P, o1v0 P, o2v0 P, o3v2 P, boot_o_4 P, boot_o_5 P, boot_o_6 P, boot_o_7 P, boot_o_8 P, boot_o_9 P, boot_o_10 P, o11v0 P, o12v0 P, o13v0 P, o14v0 P, o15v0 P, o16v0 P, o17v0 P, o18v0 P, o19v0 P, o20v0 P, o21v0 P, o22v0 P, o23v0 P, o24v0 P, o25v0 P, o26v0 P, o27v0 P, o28va P, o29v2 P, o30va P, o31va P, o32v1 P, o33v1 P, o34v1 P, o35v1 P, o36v1 P, o37v1 P, o38v1 P, o39v1 P, o40v1 P, o41v1 P, o42v1 P, o43v1 P, o44v1 P, o45v1 P, o46v1 P, o47v1 P, o48v1 P, o49v2 P, o50v2 P, o51v2 P, o52v2 P, o53v2 P, o54v2 P, o55v2 P, o56v2 P, o57v2 P, o58v2 P, o59v2 P, o60v2 P, o61v2 P, o62v2 P, o63v2 P, o64v2 P, o65v2 P, o66v2 P]
noncomputable def n2 : Nat := 67
noncomputable def k2 : Nat := 420
noncomputable def o3v3 (P : Params) : Obj := ⟨(.type "dict"), none, (.dict #[ent P (Str.ofString "__name__") 165 (.str (Str.ofString "cpy313.stringprep") 351), ent P (Str.ofString "__doc__") 166 .none, ent P (Str.ofString "__package__") 167 .none, ent P (Str.ofString "__loader__") 168 (.builtin "__main__.__loader__#opaque"), ent P (Str.ofString "__spec__") 169 .none, ent P (Str.ofString "__annotations__") 170 (.ref 6), ent P (Str.ofString "__builtins__") 171 (.ref 4), ent P (Str.ofString "__file__") 173 (.str (Str.ofString "/claim/cut.py") 172), ent P (Str.ofString "__cached__") 174 .none, ent P (Str.ofString "_sre") 275 (.ref 12), ent P (Str.ofString "_twin_re_1") 299 (.ref 36), ent P (Str.ofString "_twin_re_2") 341 (.ref 41), ent P (Str.ofString "CRLF") 343 (.str (Str.mk #[13, 10]) 342), ent P (Str.ofString "quotedata") 350 (.ref 48), ent P (Str.ofString "b1_set") 412 (.ref 56), ent P (Str.ofString "in_table_b1") 419 (.ref 66), ent P (Str.ofString "b3_exceptions") 2370 (.ref 67)] 17), #[]⟩
noncomputable def o67v3 (P : Params) : Obj := b3obj P 0
noncomputable def o68v3 (P : Params) : Obj := b3obj P 1
noncomputable def o69v3 (P : Params) : Obj := b3obj P 2
noncomputable def o70v3 (P : Params) : Obj := b3obj P 3
noncomputable def o71v3 (P : Params) : Obj := b3obj P 4
noncomputable def o72v3 (P : Params) : Obj := b3obj P 5
noncomputable def o73v3 (P : Params) : Obj := b3obj P 6
noncomputable def o74v3 (P : Params) : Obj := b3obj P 7
noncomputable def o75v3 (P : Params) : Obj := b3obj P 8
noncomputable def o76v3 (P : Params) : Obj := b3obj P 9
noncomputable def o77v3 (P : Params) : Obj := b3obj P 10
noncomputable def o78v3 (P : Params) : Obj := b3obj P 11
noncomputable def o79v3 (P : Params) : Obj := b3obj P 12
noncomputable def o80v3 (P : Params) : Obj := b3obj P 13
noncomputable def o81v3 (P : Params) : Obj := b3obj P 14
noncomputable def o82v3 (P : Params) : Obj := b3obj P 15
noncomputable def o83v3 (P : Params) : Obj := b3obj P 16
noncomputable def o84v3 (P : Params) : Obj := b3obj P 17
noncomputable def o85v3 (P : Params) : Obj := b3obj P 18
noncomputable def o86v3 (P : Params) : Obj := b3obj P 19
noncomputable def o87v3 (P : Params) : Obj := b3obj P 20
noncomputable def o88v3 (P : Params) : Obj := b3obj P 21
noncomputable def o89v3 (P : Params) : Obj := b3obj P 22
noncomputable def o90v3 (P : Params) : Obj := b3obj P 23
noncomputable def o91v3 (P : Params) : Obj := b3obj P 24
noncomputable def o92v3 (P : Params) : Obj := b3obj P 25
noncomputable def o93v3 (P : Params) : Obj := b3obj P 26
noncomputable def o94v3 (P : Params) : Obj := b3obj P 27
noncomputable def o95v3 (P : Params) : Obj := b3obj P 28
noncomputable def o96v3 (P : Params) : Obj := b3obj P 29
noncomputable def o97v3 (P : Params) : Obj := b3obj P 30
noncomputable def o98v3 (P : Params) : Obj := b3obj P 31
noncomputable def o99v3 (P : Params) : Obj := b3obj P 32
noncomputable def o100v3 (P : Params) : Obj := b3obj P 33
noncomputable def o101v3 (P : Params) : Obj := b3obj P 34
noncomputable def o102v3 (P : Params) : Obj := b3obj P 35
noncomputable def o103v3 (P : Params) : Obj := b3obj P 36
noncomputable def o104v3 (P : Params) : Obj := b3obj P 37
noncomputable def o105v3 (P : Params) : Obj := b3obj P 38
noncomputable def T3 (P : Params) : BT := (.node (boot_o_0 P) (.node (o1v0 P) (.node (o3v3 P) (.node (boot_o_7 P) (.node (o15v0 P) (.node (o31va P) (.node (o63v2 P) .nil .nil) (.node (o95v3 P) .nil .nil)) (.node (o47v1 P) (.node (o79v3 P) .nil .nil) .nil)) (.node (o23v0 P) (.node (o39v1 P) (.node (o71v3 P) .nil .nil) (.node (o103v3 P) .nil .nil)) (.node (o55v2 P) (.node (o87v3 P) .nil .nil) .nil))) (.node (o11v0 P) (.node (o19v0 P) (.node (o35v1 P) (.node (o67v3 P) .nil .nil) (.node (o99v3 P) .nil .nil)) (.node (o51v2 P) (.node (o83v3 P) .nil .nil) .nil)) (.node (o27v0 P) (.node (o43v1 P) (.node (o75v3 P) .nil .nil) .nil) (.node (o59v2 P) (.node (o91v3 P) .nil .nil) .nil)))) (.node (boot_o_5 P) (.node (boot_o_9 P) (.node (o17v0 P) (.node (o33v1 P) (.node (o65v2 P) .nil .nil) (.node (o97v3 P) .nil .nil)) (.node (o49v2 P) (.node (o81v3 P) .nil .nil) .nil)) (.node (o25v0 P) (.node (o41v1 P) (.node (o73v3 P) .nil .nil) (.node (o105v3 P) .nil .nil)) (.node (o57v2 P) (.node (o89v3 P) .nil .nil) .nil))) (.node (o13v0 P) (.node (o21v0 P) (.node (o37v1 P) (.node (o69v3 P) .nil .nil) (.node (o101v3 P) .nil .nil)) (.node (o53v2 P) (.node (o85v3 P) .nil .nil) .nil)) (.node (o29v2 P) (.node (o45v1 P) (.node (o77v3 P) .nil .nil) .nil) (.node (o61v2 P) (.node (o93v3 P) .nil .nil) .nil))))) (.node (o2v0 P) (.node (boot_o_4 P) (.node (boot_o_8 P) (.node (o16v0 P) (.node (o32v1 P) (.node (o64v2 P) .nil .nil) (.node (o96v3 P) .nil .nil)) (.node (o48v1 P) (.node (o80v3 P) .nil .nil) .nil)) (.node (o24v0 P) (.node (o40v1 P) (.node (o72v3 P) .nil .nil) (.node (o104v3 P) .nil .nil)) (.node (o56v2 P) (.node (o88v3 P) .nil .nil) .nil))) (.node (o12v0 P) (.node (o20v0 P) (.node (o36v1 P) (.node (o68v3 P) .nil .nil) (.node (o100v3 P) .nil .nil)) (.node (o52v2 P) (.node (o84v3 P) .nil .nil) .nil)) (.node (o28va P) (.node (o44v1 P) (.node (o76v3 P) .nil .nil) .nil) (.node (o60v2 P) (.node (o92v3 P) .nil .nil) .nil)))) (.node (boot_o_6 P) (.node (boot_o_10 P) (.node (o18v0 P) (.node (o34v1 P) (.node (o66v2 P) .nil .nil) (.node (o98v3 P) .nil .nil)) (.node (o50v2 P) (.node (o82v3 P) .nil .nil) .nil)) (.node (o26v0 P) (.node (o42v1 P) (.node (o74v3 P) .nil .nil) .nil) (.node (o58v2 P) (.node (o90v3 P) .nil .nil) .nil))) (.node (o14v0 P) (.node (o22v0 P) (.node (o38v1 P) (.node (o70v3 P) .nil .nil) (.node (o102v3 P) .nil .nil)) (.node (o54v2 P) (.node (o86v3 P) .nil .nil) .nil)) (.node (o30va P) (.node (o46v1 P) (.node (o78v3 P) .nil .nil) .nil) (.node (o62v2 P) (.node (o94v3 P) .nil .nil) .nil))))))
noncomputable def L3 (P : Params) : List Obj := [boot_o_0 P, o1v0 P, o2v0 P, o3v3 P, boot_o_4 P, boot_o_5 P, boot_o_6 P, boot_o_7 P, boot_o_8 P, boot_o_9 P, boot_o_10 P, o11v0 P, o12v0 P, o13v0 P, o14v0 P, o15v0 P, o16v0 P, o17v0 P, o18v0 P, o19v0 P, o20v0 P, o21v0 P, o22v0 P, o23v0 P, o24v0 P, o25v0 P, o26v0 P, o27v0 P, o28va P, o29v2 P, o30va P, o31va P, o32v1 P, o33v1 P, o34v1 P, o35v1 P, o36v1 P, o37v1 P, o38v1 P, o39v1 P, o40v1 P, o41v1 P, o42v1 P, o43v1 P, o44v1 P, o45v1 P, o46v1 P, o47v1 P, o48v1 P, o49v2 P, o50v2 P, o51v2 P, o52v2 P, o53v2 P, o54v2 P, o55v2 P, o56v2 P, o57v2 P, o58v2 P, o59v2 P, o60v2 P, o61v2 P, o62v2 P, o63v2 P, o64v2 P, o65v2 P, o66v2 P, o67v3 P, o68v3 P, o69v3 P, o70v3 P, o71v3 P, o72v3 P, o73v3 P, o74v3 P, o75v3 P, o76v3 P, o77v3 P, o78v3 P, o79v3 P, o80v3 P, o81v3 P, o82v3 P, o83v3 P, o84v3 P, o85v3 P, o86v3 P, o87v3 P, o88v3 P, o89v3 P, o90v3 P, o91v3 P, o92v3 P, o93v3 P, o94v3 P, o95v3 P, o96v3 P, o97v3 P, o98v3 P, o99v3 P, o100v3 P, o101v3 P, o102v3 P, o103v3 P, o104v3 P, o105v3 P]
noncomputable def n3 : Nat := 106
noncomputable def k3 : Nat := 2371
noncomputable def o3v4 (P : Params) : Obj := ⟨(.type "dict"), none, (.dict #[ent P (Str.ofString "__name__") 165 (.str (Str.ofString "law_st0021_01") 2395), ent P (Str.ofString "__doc__") 166 .none, ent P (Str.ofString "__package__") 167 .none, ent P (Str.ofString "__loader__") 168 (.builtin "__main__.__loader__#opaque"), ent P (Str.ofString "__spec__") 169 .none, ent P (Str.ofString "__annotations__") 170 (.ref 6), ent P (Str.ofString "__builtins__") 171 (.ref 4), ent P (Str.ofString "__file__") 173 (.str (Str.ofString "/claim/cut.py") 172), ent P (Str.ofString "__cached__") 174 .none, ent P (Str.ofString "_sre") 275 (.ref 12), ent P (Str.ofString "_twin_re_1") 299 (.ref 36), ent P (Str.ofString "_twin_re_2") 341 (.ref 41), ent P (Str.ofString "CRLF") 343 (.str (Str.mk #[13, 10]) 342), ent P (Str.ofString "quotedata") 350 (.ref 48), ent P (Str.ofString "b1_set") 412 (.ref 56), ent P (Str.ofString "in_table_b1") 419 (.ref 66), ent P (Str.ofString "b3_exceptions") 2370 (.ref 67), ent P (Str.ofString "map_table_b3") 2378 (.ref 112), ent P (Str.ofString "_raise_serialization_error") 2387 (.ref 119), ent P (Str.ofString "_escape_attrib") 2394 (.ref 126), ent P (Str.ofString "_law_nothing") 2404 (.ref 133), ent P (Str.ofString "_law_letter") 2412 (.ref 140), ent P (Str.ofString "_law_plain") 2420 (.ref 147), ent P (Str.ofString "_law_word") 2430 (.ref 154), ent P (Str.ofString "_law_prepared") 2440 (.ref 161), ent P (Str.ofString "_law_sign") 2449 (.ref 168), ent P (Str.ofString "_law_due") 2460 (.ref 175), ent P (Str.ofString "_law_mail") 2466 (.ref 180), ent P (Str.ofString "law") 2472 (.ref 185)] 29), #[]⟩
noncomputable def o29v4 (P : Params) : Obj := ⟨.none, none, (.fields #[(.int 6 0), (.int 0 0), (.ref 47), (.int 10 0), (.int 0 0), (.ref 65), (.int 13 0), (.int 0 0), (.ref 111), (.int 19 0), (.int 0 0), (.ref 118), (.int 21 0), (.int 0 0), (.ref 125), (.int 41 0), (.int 0 0), (.ref 132), (.int 44 0), (.int 0 0), (.ref 139), (.int 47 0), (.int 0 0), (.ref 146), (.int 51 0), (.int 0 0), (.ref 153), (.int 57 0), (.int 0 0), (.ref 160), (.int 66 0), (.int 0 0), (.ref 167), (.int 81 0), (.int 0 0), (.ref 174), (.int 95 0), (.int 0 0), (.ref 179), (.int 98 0), (.int 0 0), (.ref 184)]), #[]⟩
noncomputable def o106v4 (P : Params) : Obj := ⟨(.type "tuple"), none, (.seq #[] 0), #[]⟩
noncomputable def o107v4 (P : Params) : Obj := ⟨.none, none, (.fields #[]), #[]⟩
noncomputable def o108v4 (P : Params) : Obj := ⟨(.type "tuple"), none, (.seq #[(.str (Str.ofString "code") 2374), (.str (Str.ofString "r") 2375)] 0), #[]⟩
noncomputable def o109v4 (P : Params) : Obj := ⟨(.type "tuple"), none, (.seq #[] 0), #[]⟩
noncomputable def o110v4 (P : Params) : Obj := ⟨.none, none, (.func (fnData 10 (Str.ofString "map_table_b3") (Str.ofString "map_table_b3") 0 [] .none .none .none .none none .none .none 0)), #[]⟩
noncomputable def o111v4 (P : Params) : Obj := ⟨(.type "code"), none, (.fields #[(.str (Str.ofString "map_table_b3") 2371), (.str (Str.ofString "map_table_b3") 2372), (.str (Str.ofString "/claim/cut.py") 2373), (.int 13 0), (.int 1 0), (.int 0 0), (.int 0 0), (.int 3 0), (.ref 106), (.bool true), (.int 276 0), (.ref 107), .none, (.ref 108), (.ref 109), (.ref 110), (.int 2376 0), (.int 13 0), (.str (Str.ofString "/claim/cut.py") 2377)]), #[]⟩
noncomputable def o112v4 (P : Params) : Obj := ⟨(.type "function"), none, (.func (fnData 10 (Str.ofString "map_table_b3") (Str.ofString "map_table_b3") 3 [] .none .none .none (.str (Str.ofString "cpy313.stringprep") 351) none (.ref 111) .none 0)), #[]⟩
noncomputable def o113v4 (P : Params) : Obj := ⟨(.type "tuple"), none, (.seq #[] 0), #[]⟩
noncomputable def o114v4 (P : Params) : Obj := ⟨.none, none, (.fields #[]), #[]⟩
noncomputable def o115v4 (P : Params) : Obj := ⟨(.type "tuple"), none, (.seq #[(.str (Str.ofString "text") 2384)] 0), #[]⟩
noncomputable def o116v4 (P : Params) : Obj := ⟨(.type "tuple"), none, (.seq #[] 0), #[]⟩
noncomputable def o117v4 (P : Params) : Obj := ⟨.none, none, (.func (fnData 12 (Str.ofString "_raise_serialization_error") (Str.ofString "_raise_serialization_error") 0 [] .none .none .none .none none .none .none 0)), #[]⟩
noncomputable def o118v4 (P : Params) : Obj := ⟨(.type "code"), none, (.fields #[(.str (Str.ofString "_raise_serialization_error") 2381), (.str (Str.ofString "_raise_serialization_error") 2382), (.str (Str.ofString "/claim/cut.py") 2383), (.int 19 0), (.int 1 0), (.int 0 0), (.int 0 0), (.int 3 0), (.ref 113), (.bool true), (.int 276 0), (.ref 114), .none, (.ref 115), (.ref 116), (.ref 117), (.int 2385 0), (.int 19 0), (.str (Str.ofString "/claim/cut.py") 2386)]), #[]⟩
noncomputable def o119v4 (P : Params) : Obj := ⟨(.type "function"), none, (.func (fnData 12 (Str.ofString "_raise_serialization_error") (Str.ofString "_raise_serialization_error") 3 [] .none .none .none (.str (Str.ofString "cpy313.xml.etree.ElementTree") 2379) none (.ref 118) .none 0)), #[]⟩
noncomputable def o120v4 (P : Params) : Obj := ⟨(.type "tuple"), none, (.seq #[] 0), #[]⟩
noncomputable def o121v4 (P : Params) : Obj := ⟨.none, none, (.fields #[]), #[]⟩
noncomputable def o122v4 (P : Params) : Obj := ⟨(.type "tuple"), none, (.seq #[(.str (Str.ofString "text") 2391)] 0), #[]⟩
noncomputable def o123v4 (P : Params) : Obj := ⟨(.type "tuple"), none, (.seq #[] 0), #[]⟩
noncomputable def o124v4 (P : Params) : Obj := ⟨.none, none, (.func (fnData 13 (Str.ofString "_escape_attrib") (Str.ofString "_escape_attrib") 0 [] .none .none .none .none none .none .none 0)), #[]⟩
noncomputable def o125v4 (P : Params) : Obj := ⟨(.type "code"), none, (.fields #[(.str (Str.ofString "_escape_attrib") 2388), (.str (Str.ofString "_escape_attrib") 2389), (.str (Str.ofString "/claim/cut.py") 2390), (.int 21 0), (.int 1 0), (.int 0 0), (.int 0 0), (.int 3 0), (.ref 120), (.bool true), (.int 276 0), (.ref 121), .none, (.ref 122), (.ref 123), (.ref 124), (.int 2392 0), (.int 21 0), (.str (Str.ofString "/claim/cut.py") 2393)]), #[]⟩
noncomputable def o126v4 (P : Params) : Obj := ⟨(.type "function"), none, (.func (fnData 13 (Str.ofString "_escape_attrib") (Str.ofString "_escape_attrib") 3 [] .none .none .none (.str (Str.ofString "cpy313.xml.etree.ElementTree") 2379) none (.ref 125) .none 0)), #[]⟩
noncomputable def o127v4 (P : Params) : Obj := ⟨(.type "tuple"), none, (.seq #[] 0), #[]⟩
noncomputable def o128v4 (P : Params) : Obj := ⟨.none, none, (.fields #[]), #[]⟩
noncomputable def o129v4 (P : Params) : Obj := ⟨(.type "tuple"), none, (.seq #[(.str (Str.ofString "n") 2400), (.str (Str.ofString "codes") 2401)] 0), #[]⟩
noncomputable def o130v4 (P : Params) : Obj := ⟨(.type "tuple"), none, (.seq #[] 0), #[]⟩
noncomputable def o131v4 (P : Params) : Obj := ⟨.none, none, (.func (fnData 15 (Str.ofString "_law_nothing") (Str.ofString "_law_nothing") 0 [] .none .none .none .none none .none .none 0)), #[]⟩
noncomputable def o132v4 (P : Params) : Obj := ⟨(.type "code"), none, (.fields #[(.str (Str.ofString "_law_nothing") 2397), (.str (Str.ofString "_law_nothing") 2398), (.str (Str.ofString "/claim/cut.py") 2399), (.int 41 0), (.int 1 0), (.int 0 0), (.int 0 0), (.int 3 0), (.ref 127), (.bool true), (.int 276 0), (.ref 128), .none, (.ref 129), (.ref 130), (.ref 131), (.int 2402 0), (.int 41 0), (.str (Str.ofString "/claim/cut.py") 2403)]), #[]⟩
noncomputable def o133v4 (P : Params) : Obj := ⟨(.type "function"), none, (.func (fnData 15 (Str.ofString "_law_nothing") (Str.ofString "_law_nothing") 3 [] .none .none .none (.str (Str.ofString "law_st0021_01") 2395) none (.ref 132) .none 0)), #[]⟩
noncomputable def o134v4 (P : Params) : Obj := ⟨(.type "tuple"), none, (.seq #[] 0), #[]⟩
noncomputable def o135v4 (P : Params) : Obj := ⟨.none, none, (.fields #[]), #[]⟩
noncomputable def o136v4 (P : Params) : Obj := ⟨(.type "tuple"), none, (.seq #[(.str (Str.ofString "n") 2408), (.str (Str.ofString "starts") 2409)] 0), #[]⟩
noncomputable def o137v4 (P : Params) : Obj := ⟨(.type "tuple"), none, (.seq #[] 0), #[]⟩
noncomputable def o138v4 (P : Params) : Obj := ⟨.none, none, (.func (fnData 16 (Str.ofString "_law_letter") (Str.ofString "_law_letter") 0 [] .none .none .none .none none .none .none 0)), #[]⟩
noncomputable def o139v4 (P : Params) : Obj := ⟨(.type "code"), none, (.fields #[(.str (Str.ofString "_law_letter") 2405), (.str (Str.ofString "_law_letter") 2406), (.str (Str.ofString "/claim/cut.py") 2407), (.int 44 0), (.int 1 0), (.int 0 0), (.int 0 0), (.int 3 0), (.ref 134), (.bool true), (.int 276 0), (.ref 135), .none, (.ref 136), (.ref 137), (.ref 138), (.int 2410 0), (.int 44 0), (.str (Str.ofString "/claim/cut.py") 2411)]), #[]⟩
noncomputable def o140v4 (P : Params) : Obj := ⟨(.type "function"), none, (.func (fnData 16 (Str.ofString "_law_letter") (Str.ofString "_law_letter") 3 [] .none .none .none (.str (Str.ofString "law_st0021_01") 2395) none (.ref 139) .none 0)), #[]⟩
noncomputable def o141v4 (P : Params) : Obj := ⟨(.type "tuple"), none, (.seq #[] 0), #[]⟩
noncomputable def o142v4 (P : Params) : Obj := ⟨.none, none, (.fields #[]), #[]⟩
noncomputable def o143v4 (P : Params) : Obj := ⟨(.type "tuple"), none, (.seq #[(.str (Str.ofString "n") 2416), (.str (Str.ofString "codes") 2417)] 0), #[]⟩
noncomputable def o144v4 (P : Params) : Obj := ⟨(.type "tuple"), none, (.seq #[] 0), #[]⟩
noncomputable def o145v4 (P : Params) : Obj := ⟨.none, none, (.func (fnData 17 (Str.ofString "_law_plain") (Str.ofString "_law_plain") 0 [] .none .none .none .none none .none .none 0)), #[]⟩
noncomputable def o146v4 (P : Params) : Obj := ⟨(.type "code"), none, (.fields #[(.str (Str.ofString "_law_plain") 2413), (.str (Str.ofString "_law_plain") 2414), (.str (Str.ofString "/claim/cut.py") 2415), (.int 47 0), (.int 1 0), (.int 0 0), (.int 0 0), (.int 3 0), (.ref 141), (.bool true), (.int 276 0), (.ref 142), .none, (.ref 143), (.ref 144), (.ref 145), (.int 2418 0), (.int 47 0), (.str (Str.ofString "/claim/cut.py") 2419)]), #[]⟩
noncomputable def o147v4 (P : Params) : Obj := ⟨(.type "function"), none, (.func (fnData 17 (Str.ofString "_law_plain") (Str.ofString "_law_plain") 3 [] .none .none .none (.str (Str.ofString "law_st0021_01") 2395) none (.ref 146) .none 0)), #[]⟩
noncomputable def o148v4 (P : Params) : Obj := ⟨(.type "tuple"), none, (.seq #[] 0), #[]⟩
noncomputable def o149v4 (P : Params) : Obj := ⟨.none, none, (.fields #[]), #[]⟩
noncomputable def o150v4 (P : Params) : Obj := ⟨(.type "tuple"), none, (.seq #[(.str (Str.ofString "n") 2424), (.str (Str.ofString "words") 2425), (.str (Str.ofString "code") 2426), (.str (Str.ofString "word") 2427)] 0), #[]⟩
noncomputable def o151v4 (P : Params) : Obj := ⟨(.type "tuple"), none, (.seq #[] 0), #[]⟩
noncomputable def o152v4 (P : Params) : Obj := ⟨.none, none, (.func (fnData 18 (Str.ofString "_law_word") (Str.ofString "_law_word") 0 [] .none .none .none .none none .none .none 0)), #[]⟩
noncomputable def o153v4 (P : Params) : Obj := ⟨(.type "code"), none, (.fields #[(.str (Str.ofString "_law_word") 2421), (.str (Str.ofString "_law_word") 2422), (.str (Str.ofString "/claim/cut.py") 2423), (.int 51 0), (.int 1 0), (.int 0 0), (.int 0 0), (.int 3 0), (.ref 148), (.bool true), (.int 276 0), (.ref 149), .none, (.ref 150), (.ref 151), (.ref 152), (.int 2428 0), (.int 51 0), (.str (Str.ofString "/claim/cut.py") 2429)]), #[]⟩
noncomputable def o154v4 (P : Params) : Obj := ⟨(.type "function"), none, (.func (fnData 18 (Str.ofString "_law_word") (Str.ofString "_law_word") 3 [] .none .none .none (.str (Str.ofString "law_st0021_01") 2395) none (.ref 153) .none 0)), #[]⟩
noncomputable def o155v4 (P : Params) : Obj := ⟨(.type "tuple"), none, (.seq #[] 0), #[]⟩
noncomputable def o156v4 (P : Params) : Obj := ⟨.none, none, (.fields #[]), #[]⟩
noncomputable def o157v4 (P : Params) : Obj := ⟨(.type "tuple"), none, (.seq #[(.str (Str.ofString "text") 2434), (.str (Str.ofString "kept") 2435), (.str (Str.ofString "sign") 2436), (.str (Str.ofString "told") 2437)] 0), #[]⟩
noncomputable def o158v4 (P : Params) : Obj := ⟨(.type "tuple"), none, (.seq #[] 0), #[]⟩
noncomputable def o159v4 (P : Params) : Obj := ⟨.none, none, (.func (fnData 19 (Str.ofString "_law_prepared") (Str.ofString "_law_prepared") 0 [] .none .none .none .none none .none .none 0)), #[]⟩
noncomputable def o160v4 (P : Params) : Obj := ⟨(.type "code"), none, (.fields #[(.str (Str.ofString "_law_prepared") 2431), (.str (Str.ofString "_law_prepared") 2432), (.str (Str.ofString "/claim/cut.py") 2433), (.int 57 0), (.int 1 0), (.int 0 0), (.int 0 0), (.int 3 0), (.ref 155), (.bool true), (.int 276 0), (.ref 156), .none, (.ref 157), (.ref 158), (.ref 159), (.int 2438 0), (.int 57 0), (.str (Str.ofString "/claim/cut.py") 2439)]), #[]⟩
noncomputable def o161v4 (P : Params) : Obj := ⟨(.type "function"), none, (.func (fnData 19 (Str.ofString "_law_prepared") (Str.ofString "_law_prepared") 3 [] .none .none .none (.str (Str.ofString "law_st0021_01") 2395) none (.ref 160) .none 0)), #[]⟩
noncomputable def o162v4 (P : Params) : Obj := ⟨(.type "tuple"), none, (.seq #[] 0), #[]⟩
noncomputable def o163v4 (P : Params) : Obj := ⟨.none, none, (.fields #[]), #[]⟩
noncomputable def o164v4 (P : Params) : Obj := ⟨(.type "tuple"), none, (.seq #[(.str (Str.ofString "n") 2444), (.str (Str.ofString "kind") 2445), (.str (Str.ofString "rest") 2446)] 0), #[]⟩
noncomputable def o165v4 (P : Params) : Obj := ⟨(.type "tuple"), none, (.seq #[] 0), #[]⟩
noncomputable def o166v4 (P : Params) : Obj := ⟨.none, none, (.func (fnData 20 (Str.ofString "_law_sign") (Str.ofString "_law_sign") 0 [] .none .none .none .none none .none .none 0)), #[]⟩
noncomputable def o167v4 (P : Params) : Obj := ⟨(.type "code"), none, (.fields #[(.str (Str.ofString "_law_sign") 2441), (.str (Str.ofString "_law_sign") 2442), (.str (Str.ofString "/claim/cut.py") 2443), (.int 66 0), (.int 1 0), (.int 0 0), (.int 0 0), (.int 3 0), (.ref 162), (.bool true), (.int 276 0), (.ref 163), .none, (.ref 164), (.ref 165), (.ref 166), (.int 2447 0), (.int 66 0), (.str (Str.ofString "/claim/cut.py") 2448)]), #[]⟩
noncomputable def o168v4 (P : Params) : Obj := ⟨(.type "function"), none, (.func (fnData 20 (Str.ofString "_law_sign") (Str.ofString "_law_sign") 3 [] .none .none .none (.str (Str.ofString "law_st0021_01") 2395) none (.ref 167) .none 0)), #[]⟩
noncomputable def o169v4 (P : Params) : Obj := ⟨(.type "tuple"), none, (.seq #[] 0), #[]⟩
noncomputable def o170v4 (P : Params) : Obj := ⟨.none, none, (.fields #[]), #[]⟩
noncomputable def o171v4 (P : Params) : Obj := ⟨(.type "tuple"), none, (.seq #[(.str (Str.ofString "row") 2453), (.str (Str.ofString "due") 2454), (.str (Str.ofString "last") 2455), (.str (Str.ofString "spelled") 2456), (.str (Str.ofString "written") 2457)] 0), #[]⟩
noncomputable def o172v4 (P : Params) : Obj := ⟨(.type "tuple"), none, (.seq #[] 0), #[]⟩
noncomputable def o173v4 (P : Params) : Obj := ⟨.none, none, (.func (fnData 21 (Str.ofString "_law_due") (Str.ofString "_law_due") 0 [] .none .none .none .none none .none .none 0)), #[]⟩
noncomputable def o174v4 (P : Params) : Obj := ⟨(.type "code"), none, (.fields #[(.str (Str.ofString "_law_due") 2450), (.str (Str.ofString "_law_due") 2451), (.str (Str.ofString "/claim/cut.py") 2452), (.int 81 0), (.int 1 0), (.int 0 0), (.int 0 0), (.int 3 0), (.ref 169), (.bool true), (.int 276 0), (.ref 170), .none, (.ref 171), (.ref 172), (.ref 173), (.int 2458 0), (.int 81 0), (.str (Str.ofString "/claim/cut.py") 2459)]), #[]⟩
noncomputable def o175v4 (P : Params) : Obj := ⟨(.type "function"), none, (.func (fnData 21 (Str.ofString "_law_due") (Str.ofString "_law_due") 3 [] .none .none .none (.str (Str.ofString "law_st0021_01") 2395) none (.ref 174) .none 0)), #[]⟩
noncomputable def o176v4 (P : Params) : Obj := ⟨(.type "tuple"), none, (.seq #[] 0), #[]⟩
noncomputable def o177v4 (P : Params) : Obj := ⟨.none, none, (.fields #[]), #[]⟩
noncomputable def o178v4 (P : Params) : Obj := ⟨.none, none, (.func (fnData 22 (Str.ofString "_law_mail") (Str.ofString "_law_mail") 0 [] .none .none .none .none none .none .none 0)), #[]⟩
noncomputable def o179v4 (P : Params) : Obj := ⟨(.type "code"), none, (.fields #[(.str (Str.ofString "_law_mail") 2461), (.str (Str.ofString "_law_mail") 2462), (.str (Str.ofString "/claim/cut.py") 2463), (.int 95 0), (.int 1 0), (.int 0 0), (.int 0 0), (.int 3 0), (.ref 176), (.bool true), (.int 276 0), (.ref 177), .none, .none, .none, (.ref 178), (.int 2464 0), (.int 95 0), (.str (Str.ofString "/claim/cut.py") 2465)]), #[]⟩
noncomputable def o180v4 (P : Params) : Obj := ⟨(.type "function"), none, (.func (fnData 22 (Str.ofString "_law_mail") (Str.ofString "_law_mail") 3 [] .none .none .none (.str (Str.ofString "law_st0021_01") 2395) none (.ref 179) .none 0)), #[]⟩
noncomputable def o181v4 (P : Params) : Obj := ⟨(.type "tuple"), none, (.seq #[] 0), #[]⟩
noncomputable def o182v4 (P : Params) : Obj := ⟨.none, none, (.fields #[]), #[]⟩
noncomputable def o183v4 (P : Params) : Obj := ⟨.none, none, (.func (fnData 23 (Str.ofString "law") (Str.ofString "law") 0 [] .none .none .none .none none .none .none 0)), #[]⟩
noncomputable def o184v4 (P : Params) : Obj := ⟨(.type "code"), none, (.fields #[(.str (Str.ofString "law") 2467), (.str (Str.ofString "law") 2468), (.str (Str.ofString "/claim/cut.py") 2469), (.int 98 0), (.int 1 0), (.int 0 0), (.int 0 0), (.int 3 0), (.ref 181), (.bool true), (.int 276 0), (.ref 182), .none, .none, .none, (.ref 183), (.int 2470 0), (.int 98 0), (.str (Str.ofString "/claim/cut.py") 2471)]), #[]⟩
noncomputable def o185v4 (P : Params) : Obj := ⟨(.type "function"), none, (.func (fnData 23 (Str.ofString "law") (Str.ofString "law") 3 [] .none .none .none (.str (Str.ofString "law_st0021_01") 2395) none (.ref 184) .none 0)), #[]⟩
noncomputable def T4 (P : Params) : BT := (.node (boot_o_0 P) (.node (o1v0 P) (.node (o3v4 P) (.node (boot_o_7 P) (.node (o15v0 P) (.node (o31va P) (.node (o63v2 P) (.node (o127v4 P) .nil .nil) .nil) (.node (o95v3 P) (.node (o159v4 P) .nil .nil) .nil)) (.node (o47v1 P) (.node (o79v3 P) (.node (o143v4 P) .nil .nil) .nil) (.node (o111v4 P) (.node (o175v4 P) .nil .nil) .nil))) (.node (o23v0 P) (.node (o39v1 P) (.node (o71v3 P) (.node (o135v4 P) .nil .nil) .nil) (.node (o103v3 P) (.node (o167v4 P) .nil .nil) .nil)) (.node (o55v2 P) (.node (o87v3 P) (.node (o151v4 P) .nil .nil) .nil) (.node (o119v4 P) (.node (o183v4 P) .nil .nil) .nil)))) (.node (o11v0 P) (.node (o19v0 P) (.node (o35v1 P) (.node (o67v3 P) (.node (o131v4 P) .nil .nil) .nil) (.node (o99v3 P) (.node (o163v4 P) .nil .nil) .nil)) (.node (o51v2 P) (.node (o83v3 P) (.node (o147v4 P) .nil .nil) .nil) (.node (o115v4 P) (.node (o179v4 P) .nil .nil) .nil))) (.node (o27v0 P) (.node (o43v1 P) (.node (o75v3 P) (.node (o139v4 P) .nil .nil) .nil) (.node (o107v4 P) (.node (o171v4 P) .nil .nil) .nil)) (.node (o59v2 P) (.node (o91v3 P) (.node (o155v4 P) .nil .nil) .nil) (.node (o123v4 P) .nil .nil))))) (.node (boot_o_5 P) (.node (boot_o_9 P) (.node (o17v0 P) (.node (o33v1 P) (.node (o65v2 P) (.node (o129v4 P) .nil .nil) .nil) (.node (o97v3 P) (.node (o161v4 P) .nil .nil) .nil)) (.node (o49v2 P) (.node (o81v3 P) (.node (o145v4 P) .nil .nil) .nil) (.node (o113v4 P) (.node (o177v4 P) .nil .nil) .nil))) (.node (o25v0 P) (.node (o41v1 P) (.node (o73v3 P) (.node (o137v4 P) .nil .nil) .nil) (.node (o105v3 P) (.node (o169v4 P) .nil .nil) .nil)) (.node (o57v2 P) (.node (o89v3 P) (.node (o153v4 P) .nil .nil) .nil) (.node (o121v4 P) (.node (o185v4 P) .nil .nil) .nil)))) (.node (o13v0 P) (.node (o21v0 P) (.node (o37v1 P) (.node (o69v3 P) (.node (o133v4 P) .nil .nil) .nil) (.node (o101v3 P) (.node (o165v4 P) .nil .nil) .nil)) (.node (o53v2 P) (.node (o85v3 P) (.node (o149v4 P) .nil .nil) .nil) (.node (o117v4 P) (.node (o181v4 P) .nil .nil) .nil))) (.node (o29v4 P) (.node (o45v1 P) (.node (o77v3 P) (.node (o141v4 P) .nil .nil) .nil) (.node (o109v4 P) (.node (o173v4 P) .nil .nil) .nil)) (.node (o61v2 P) (.node (o93v3 P) (.node (o157v4 P) .nil .nil) .nil) (.node (o125v4 P) .nil .nil)))))) (.node (o2v0 P) (.node (boot_o_4 P) (.node (boot_o_8 P) (.node (o16v0 P) (.node (o32v1 P) (.node (o64v2 P) (.node (o128v4 P) .nil .nil) .nil) (.node (o96v3 P) (.node (o160v4 P) .nil .nil) .nil)) (.node (o48v1 P) (.node (o80v3 P) (.node (o144v4 P) .nil .nil) .nil) (.node (o112v4 P) (.node (o176v4 P) .nil .nil) .nil))) (.node (o24v0 P) (.node (o40v1 P) (.node (o72v3 P) (.node (o136v4 P) .nil .nil) .nil) (.node (o104v3 P) (.node (o168v4 P) .nil .nil) .nil)) (.node (o56v2 P) (.node (o88v3 P) (.node (o152v4 P) .nil .nil) .nil) (.node (o120v4 P) (.node (o184v4 P) .nil .nil) .nil)))) (.node (o12v0 P) (.node (o20v0 P) (.node (o36v1 P) (.node (o68v3 P) (.node (o132v4 P) .nil .nil) .nil) (.node (o100v3 P) (.node (o164v4 P) .nil .nil) .nil)) (.node (o52v2 P) (.node (o84v3 P) (.node (o148v4 P) .nil .nil) .nil) (.node (o116v4 P) (.node (o180v4 P) .nil .nil) .nil))) (.node (o28va P) (.node (o44v1 P) (.node (o76v3 P) (.node (o140v4 P) .nil .nil) .nil) (.node (o108v4 P) (.node (o172v4 P) .nil .nil) .nil)) (.node (o60v2 P) (.node (o92v3 P) (.node (o156v4 P) .nil .nil) .nil) (.node (o124v4 P) .nil .nil))))) (.node (boot_o_6 P) (.node (boot_o_10 P) (.node (o18v0 P) (.node (o34v1 P) (.node (o66v2 P) (.node (o130v4 P) .nil .nil) .nil) (.node (o98v3 P) (.node (o162v4 P) .nil .nil) .nil)) (.node (o50v2 P) (.node (o82v3 P) (.node (o146v4 P) .nil .nil) .nil) (.node (o114v4 P) (.node (o178v4 P) .nil .nil) .nil))) (.node (o26v0 P) (.node (o42v1 P) (.node (o74v3 P) (.node (o138v4 P) .nil .nil) .nil) (.node (o106v4 P) (.node (o170v4 P) .nil .nil) .nil)) (.node (o58v2 P) (.node (o90v3 P) (.node (o154v4 P) .nil .nil) .nil) (.node (o122v4 P) .nil .nil)))) (.node (o14v0 P) (.node (o22v0 P) (.node (o38v1 P) (.node (o70v3 P) (.node (o134v4 P) .nil .nil) .nil) (.node (o102v3 P) (.node (o166v4 P) .nil .nil) .nil)) (.node (o54v2 P) (.node (o86v3 P) (.node (o150v4 P) .nil .nil) .nil) (.node (o118v4 P) (.node (o182v4 P) .nil .nil) .nil))) (.node (o30va P) (.node (o46v1 P) (.node (o78v3 P) (.node (o142v4 P) .nil .nil) .nil) (.node (o110v4 P) (.node (o174v4 P) .nil .nil) .nil)) (.node (o62v2 P) (.node (o94v3 P) (.node (o158v4 P) .nil .nil) .nil) (.node (o126v4 P) .nil .nil)))))))
noncomputable def L4 (P : Params) : List Obj := [boot_o_0 P, o1v0 P, o2v0 P, o3v4 P, boot_o_4 P, boot_o_5 P, boot_o_6 P, boot_o_7 P, boot_o_8 P, boot_o_9 P, boot_o_10 P, o11v0 P, o12v0 P, o13v0 P, o14v0 P, o15v0 P, o16v0 P, o17v0 P, o18v0 P, o19v0 P, o20v0 P, o21v0 P, o22v0 P, o23v0 P, o24v0 P, o25v0 P, o26v0 P, o27v0 P, o28va P, o29v4 P, o30va P, o31va P, o32v1 P, o33v1 P, o34v1 P, o35v1 P, o36v1 P, o37v1 P, o38v1 P, o39v1 P, o40v1 P, o41v1 P, o42v1 P, o43v1 P, o44v1 P, o45v1 P, o46v1 P, o47v1 P, o48v1 P, o49v2 P, o50v2 P, o51v2 P, o52v2 P, o53v2 P, o54v2 P, o55v2 P, o56v2 P, o57v2 P, o58v2 P, o59v2 P, o60v2 P, o61v2 P, o62v2 P, o63v2 P, o64v2 P, o65v2 P, o66v2 P, o67v3 P, o68v3 P, o69v3 P, o70v3 P, o71v3 P, o72v3 P, o73v3 P, o74v3 P, o75v3 P, o76v3 P, o77v3 P, o78v3 P, o79v3 P, o80v3 P, o81v3 P, o82v3 P, o83v3 P, o84v3 P, o85v3 P, o86v3 P, o87v3 P, o88v3 P, o89v3 P, o90v3 P, o91v3 P, o92v3 P, o93v3 P, o94v3 P, o95v3 P, o96v3 P, o97v3 P, o98v3 P, o99v3 P, o100v3 P, o101v3 P, o102v3 P, o103v3 P, o104v3 P, o105v3 P, o106v4 P, o107v4 P, o108v4 P, o109v4 P, o110v4 P, o111v4 P, o112v4 P, o113v4 P, o114v4 P, o115v4 P, o116v4 P, o117v4 P, o118v4 P, o119v4 P, o120v4 P, o121v4 P, o122v4 P, o123v4 P, o124v4 P, o125v4 P, o126v4 P, o127v4 P, o128v4 P, o129v4 P, o130v4 P, o131v4 P, o132v4 P, o133v4 P, o134v4 P, o135v4 P, o136v4 P, o137v4 P, o138v4 P, o139v4 P, o140v4 P, o141v4 P, o142v4 P, o143v4 P, o144v4 P, o145v4 P, o146v4 P, o147v4 P, o148v4 P, o149v4 P, o150v4 P, o151v4 P, o152v4 P, o153v4 P, o154v4 P, o155v4 P, o156v4 P, o157v4 P, o158v4 P, o159v4 P, o160v4 P, o161v4 P, o162v4 P, o163v4 P, o164v4 P, o165v4 P, o166v4 P, o167v4 P, o168v4 P, o169v4 P, o170v4 P, o171v4 P, o172v4 P, o173v4 P, o174v4 P, o175v4 P, o176v4 P, o177v4 P, o178v4 P, o179v4 P, o180v4 P, o181v4 P, o182v4 P, o183v4 P, o184v4 P, o185v4 P]
noncomputable def n4 : Nat := 186
noncomputable def k4 : Nat := 2473
noncomputable def Tf (P : Params) : BT := (.node (boot_o_0 P) (.node (o1v0 P) (.node (o3v4 P) (.node (boot_o_7 P) (.node (o15v0 P) (.node (o31va P) (.node (o63v2 P) (.node (o127v4 P) .nil .nil) .nil) (.node (o95v3 P) (.node (o159v4 P) .nil .nil) .nil)) (.node (o47v1 P) (.node (o79v3 P) (.node (o143v4 P) .nil .nil) .nil) (.node (o111v4 P) (.node (o175v4 P) .nil .nil) .nil))) (.node (o23v0 P) (.node (o39v1 P) (.node (o71v3 P) (.node (o135v4 P) .nil .nil) .nil) (.node (o103v3 P) (.node (o167v4 P) .nil .nil) .nil)) (.node (o55v2 P) (.node (o87v3 P) (.node (o151v4 P) .nil .nil) .nil) (.node (o119v4 P) (.node (o183v4 P) .nil .nil) .nil)))) (.node (o11v0 P) (.node (o19v0 P) (.node (o35v1 P) (.node (o67v3 P) (.node (o131v4 P) .nil .nil) .nil) (.node (o99v3 P) (.node (o163v4 P) .nil .nil) .nil)) (.node (o51v2 P) (.node (o83v3 P) (.node (o147v4 P) .nil .nil) .nil) (.node (o115v4 P) (.node (o179v4 P) .nil .nil) .nil))) (.node (o27v0 P) (.node (o43v1 P) (.node (o75v3 P) (.node (o139v4 P) .nil .nil) .nil) (.node (o107v4 P) (.node (o171v4 P) .nil .nil) .nil)) (.node (o59v2 P) (.node (o91v3 P) (.node (o155v4 P) .nil .nil) .nil) (.node (o123v4 P) .nil .nil))))) (.node (boot_o_5 P) (.node (boot_o_9 P) (.node (o17v0 P) (.node (o33v1 P) (.node (o65v2 P) (.node (o129v4 P) .nil .nil) .nil) (.node (o97v3 P) (.node (o161v4 P) .nil .nil) .nil)) (.node (o49v2 P) (.node (o81v3 P) (.node (o145v4 P) .nil .nil) .nil) (.node (o113v4 P) (.node (o177v4 P) .nil .nil) .nil))) (.node (o25v0 P) (.node (o41v1 P) (.node (o73v3 P) (.node (o137v4 P) .nil .nil) .nil) (.node (o105v3 P) (.node (o169v4 P) .nil .nil) .nil)) (.node (o57v2 P) (.node (o89v3 P) (.node (o153v4 P) .nil .nil) .nil) (.node (o121v4 P) (.node (o185v4 P) .nil .nil) .nil)))) (.node (o13v0 P) (.node (o21v0 P) (.node (o37v1 P) (.node (o69v3 P) (.node (o133v4 P) .nil .nil) .nil) (.node (o101v3 P) (.node (o165v4 P) .nil .nil) .nil)) (.node (o53v2 P) (.node (o85v3 P) (.node (o149v4 P) .nil .nil) .nil) (.node (o117v4 P) (.node (o181v4 P) .nil .nil) .nil))) (.node (o29v4 P) (.node (o45v1 P) (.node (o77v3 P) (.node (o141v4 P) .nil .nil) .nil) (.node (o109v4 P) (.node (o173v4 P) .nil .nil) .nil)) (.node (o61v2 P) (.node (o93v3 P) (.node (o157v4 P) .nil .nil) .nil) (.node (o125v4 P) .nil .nil)))))) (.node (o2v0 P) (.node (boot_o_4 P) (.node (boot_o_8 P) (.node (o16v0 P) (.node (o32v1 P) (.node (o64v2 P) (.node (o128v4 P) .nil .nil) .nil) (.node (o96v3 P) (.node (o160v4 P) .nil .nil) .nil)) (.node (o48v1 P) (.node (o80v3 P) (.node (o144v4 P) .nil .nil) .nil) (.node (o112v4 P) (.node (o176v4 P) .nil .nil) .nil))) (.node (o24v0 P) (.node (o40v1 P) (.node (o72v3 P) (.node (o136v4 P) .nil .nil) .nil) (.node (o104v3 P) (.node (o168v4 P) .nil .nil) .nil)) (.node (o56v2 P) (.node (o88v3 P) (.node (o152v4 P) .nil .nil) .nil) (.node (o120v4 P) (.node (o184v4 P) .nil .nil) .nil)))) (.node (o12v0 P) (.node (o20v0 P) (.node (o36v1 P) (.node (o68v3 P) (.node (o132v4 P) .nil .nil) .nil) (.node (o100v3 P) (.node (o164v4 P) .nil .nil) .nil)) (.node (o52v2 P) (.node (o84v3 P) (.node (o148v4 P) .nil .nil) .nil) (.node (o116v4 P) (.node (o180v4 P) .nil .nil) .nil))) (.node (o28va P) (.node (o44v1 P) (.node (o76v3 P) (.node (o140v4 P) .nil .nil) .nil) (.node (o108v4 P) (.node (o172v4 P) .nil .nil) .nil)) (.node (o60v2 P) (.node (o92v3 P) (.node (o156v4 P) .nil .nil) .nil) (.node (o124v4 P) .nil .nil))))) (.node (boot_o_6 P) (.node (boot_o_10 P) (.node (o18v0 P) (.node (o34v1 P) (.node (o66v2 P) (.node (o130v4 P) .nil .nil) .nil) (.node (o98v3 P) (.node (o162v4 P) .nil .nil) .nil)) (.node (o50v2 P) (.node (o82v3 P) (.node (o146v4 P) .nil .nil) .nil) (.node (o114v4 P) (.node (o178v4 P) .nil .nil) .nil))) (.node (o26v0 P) (.node (o42v1 P) (.node (o74v3 P) (.node (o138v4 P) .nil .nil) .nil) (.node (o106v4 P) (.node (o170v4 P) .nil .nil) .nil)) (.node (o58v2 P) (.node (o90v3 P) (.node (o154v4 P) .nil .nil) .nil) (.node (o122v4 P) .nil .nil)))) (.node (o14v0 P) (.node (o22v0 P) (.node (o38v1 P) (.node (o70v3 P) (.node (o134v4 P) .nil .nil) .nil) (.node (o102v3 P) (.node (o166v4 P) .nil .nil) .nil)) (.node (o54v2 P) (.node (o86v3 P) (.node (o150v4 P) .nil .nil) .nil) (.node (o118v4 P) (.node (o182v4 P) .nil .nil) .nil))) (.node (o30va P) (.node (o46v1 P) (.node (o78v3 P) (.node (o142v4 P) .nil .nil) .nil) (.node (o110v4 P) (.node (o174v4 P) .nil .nil) .nil)) (.node (o62v2 P) (.node (o94v3 P) (.node (o158v4 P) .nil .nil) .nil) (.node (o126v4 P) .nil .nil)))))))
noncomputable def Lf (P : Params) : List Obj := [boot_o_0 P, o1v0 P, o2v0 P, o3v4 P, boot_o_4 P, boot_o_5 P, boot_o_6 P, boot_o_7 P, boot_o_8 P, boot_o_9 P, boot_o_10 P, o11v0 P, o12v0 P, o13v0 P, o14v0 P, o15v0 P, o16v0 P, o17v0 P, o18v0 P, o19v0 P, o20v0 P, o21v0 P, o22v0 P, o23v0 P, o24v0 P, o25v0 P, o26v0 P, o27v0 P, o28va P, o29v4 P, o30va P, o31va P, o32v1 P, o33v1 P, o34v1 P, o35v1 P, o36v1 P, o37v1 P, o38v1 P, o39v1 P, o40v1 P, o41v1 P, o42v1 P, o43v1 P, o44v1 P, o45v1 P, o46v1 P, o47v1 P, o48v1 P, o49v2 P, o50v2 P, o51v2 P, o52v2 P, o53v2 P, o54v2 P, o55v2 P, o56v2 P, o57v2 P, o58v2 P, o59v2 P, o60v2 P, o61v2 P, o62v2 P, o63v2 P, o64v2 P, o65v2 P, o66v2 P, o67v3 P, o68v3 P, o69v3 P, o70v3 P, o71v3 P, o72v3 P, o73v3 P, o74v3 P, o75v3 P, o76v3 P, o77v3 P, o78v3 P, o79v3 P, o80v3 P, o81v3 P, o82v3 P, o83v3 P, o84v3 P, o85v3 P, o86v3 P, o87v3 P, o88v3 P, o89v3 P, o90v3 P, o91v3 P, o92v3 P, o93v3 P, o94v3 P, o95v3 P, o96v3 P, o97v3 P, o98v3 P, o99v3 P, o100v3 P, o101v3 P, o102v3 P, o103v3 P, o104v3 P, o105v3 P, o106v4 P, o107v4 P, o108v4 P, o109v4 P, o110v4 P, o111v4 P, o112v4 P, o113v4 P, o114v4 P, o115v4 P, o116v4 P, o117v4 P, o118v4 P, o119v4 P, o120v4 P, o121v4 P, o122v4 P, o123v4 P, o124v4 P, o125v4 P, o126v4 P, o127v4 P, o128v4 P, o129v4 P, o130v4 P, o131v4 P, o132v4 P, o133v4 P, o134v4 P, o135v4 P, o136v4 P, o137v4 P, o138v4 P, o139v4 P, o140v4 P, o141v4 P, o142v4 P, o143v4 P, o144v4 P, o145v4 P, o146v4 P, o147v4 P, o148v4 P, o149v4 P, o150v4 P, o151v4 P, o152v4 P, o153v4 P, o154v4 P, o155v4 P, o156v4 P, o157v4 P, o158v4 P, o159v4 P, o160v4 P, o161v4 P, o162v4 P, o163v4 P, o164v4 P, o165v4 P, o166v4 P, o167v4 P, o168v4 P, o169v4 P, o170v4 P, o171v4 P, o172v4 P, o173v4 P, o174v4 P, o175v4 P, o176v4 P, o177v4 P, o178v4 P, o179v4 P, o180v4 P, o181v4 P, o182v4 P, o183v4 P, o184v4 P, o185v4 P]
noncomputable def nf : Nat := 186
noncomputable def kf : Nat := 2473
noncomputable def posa : Pos := ⟨0, 0, 0, 0⟩
noncomputable def posb : Pos := ⟨0, 0, 0, 0⟩
noncomputable def posq : Pos := ⟨0, 0, 0, 0⟩
noncomputable def pos1 : Pos := ⟨8, 0, 8, 8⟩
noncomputable def pos2 : Pos := ⟨10, 0, 11, 30⟩
noncomputable def pos3 : Pos := ⟨12, 0, 12, 13⟩
noncomputable def pos4 : Pos := ⟨98, 0, 120, 23⟩
end Mine
end
section
set_option maxRecDepth 100000
set_option maxHeartbeats 0
set_option linter.unusedVariables false
namespace Mine
open PySem PySem.W PySem.Calls PyProof.Rows
noncomputable abbrev ann0 : Option Value := some (.ref 6)
noncomputable def bE : List Stmt := behindTheImports pw
noncomputable def env0 : Env := { scope := pw.main.scope, locals := mainNs, globals := mainNs, cells := [], code := .ref 30, frame := some 31 }
noncomputable abbrev cE : Code := .body bE env0
noncomputable abbrev B0 : List PySem.Frame := [topFrame posq]
noncomputable def H0 (P : Params) : Heap := ⟨⟨L0 P⟩, {}⟩
noncomputable def Ha (P : Params) : Heap := ⟨⟨La P⟩, {}⟩
noncomputable abbrev drawn0 : Drawn := {}
noncomputable def sts (i n : Nat) : List Stmt := ((bE.drop i).take n)
theorem p_pre (w : World) : (fun os => topGo treeTable pw w 28 ann0 12 ⟨H0 w.params, #[], drawn0, k0, os⟩ (topStub pw)) = fun os => some (⟨Ha w.params, #[], drawn0, ka, os⟩, ⟨denote treeTable cE, cE, posa, B0⟩) := by kernel_rfl!
theorem p_block (w : World) : (fun os => segRun treeTable pw w 28 ann0 1 1 ⟨Ha w.params, #[], drawn0, ka, os⟩ (blockOf bE env0 cE posa B0)) = fun os => some (.next, (SharedT.mk (Tb w.params) nb {} #[] drawn0 kb os).abs, cE, posb) := by kernel_rfl!
theorem p_1 (w : World) : (fun os => segRunT treeTable pw w 28 ann0 1 201 (SharedT.mk (Tb w.params) nb {} #[] drawn0 kb os) (piecesOf (sts 0 6) env0 cE posb B0)) = fun os => some (.next, SharedT.mk (T1 w.params) n1 {} #[] drawn0 k1 os, cE, pos1) := by kernel_rfl!
end Mine
end
section
set_option maxRecDepth 100000
set_option maxHeartbeats 0
set_option linter.unusedVariables false
namespace Mine
open PySem PySem.W PySem.Calls PyProof.Rows
theorem p_4 (w : World) : (fun os => segRunT treeTable pw w 28 ann0 1 377 (SharedT.mk (T3 w.params) n3 {} #[] drawn0 k3 os) (piecesOf (sts 9 14) env0 cE pos3 B0)) = fun os => some (.next, SharedT.mk (T4 w.params) n4 {} #[] drawn0 k4 os, cE, pos4) := by
  rw [PySem.W.Fast.te10110043849684766642, PySem.W.Fast.te14364793385576792824]; kernel_rfl!
noncomputable def Hf (P : Params) : Heap := ⟨⟨Lf P⟩, {}⟩
theorem p_fin (w : World) : (fun os => topRun treeTable pw w 28 ann0 2 ((SharedT.mk (T4 w.params) n4 {} #[] drawn0 k4 os).abs) ⟨doneF .next, cE, pos4, B0⟩) = fun os => some ⟨Hf w.params, #[], drawn0, kf, os⟩ := by kernel_rfl!
end Mine
end
section
set_option maxRecDepth 100000
set_option maxHeartbeats 0
set_option linter.unusedVariables false
namespace Mine
open PySem PySem.W PySem.Calls PyProof.Rows
theorem p_size (w : World) : ((H0 w.params).isNs mainGlobals && (#[] : Array GenState).size == 0, (H0 w.params).objs.size, (H0 w.params).nsMap mainGlobals "__annotations__") = (true, 28, ann0) := by kernel_rfl!
theorem p_open (w : World) : (fencedOpening treeTable pw w 30000).map (fun s => (s.heap, s.gens, s.drawn, s.toks)) = some (H0 w.params, #[], drawn0, k0) := by
  rw [PySem.W.Fast.te14364793385576792824]; kernel_rfl!
end Mine
end
section
set_option maxRecDepth 100000
set_option maxHeartbeats 0
set_option linter.unusedVariables false
namespace Mine
open PySem PySem.W PySem.Calls PyProof.Rows

noncomputable def KK (P : Params) : Frag := (nat_lit 2, o2v0 P) :: (nat_lit 3, o3v4 P) :: (nat_lit 6, boot_o_6 P) :: (nat_lit 11, o11v0 P) :: (nat_lit 12, o12v0 P) :: (nat_lit 35, o35v1 P) :: (nat_lit 36, o36v1 P) :: (nat_lit 40, o40v1 P) :: (nat_lit 41, o41v1 P) :: (nat_lit 42, o42v1 P) :: (nat_lit 44, o44v1 P) :: (nat_lit 45, o45v1 P) :: (nat_lit 47, o47v1 P) :: (nat_lit 48, o48v1 P) :: (nat_lit 56, o56v2 P) :: (nat_lit 60, o60v2 P) :: (nat_lit 62, o62v2 P) :: (nat_lit 63, o63v2 P) :: (nat_lit 65, o65v2 P) :: (nat_lit 66, o66v2 P) :: (nat_lit 67, o67v3 P) :: (nat_lit 106, o106v4 P) :: (nat_lit 108, o108v4 P) :: (nat_lit 109, o109v4 P) :: (nat_lit 111, o111v4 P) :: (nat_lit 112, o112v4 P) :: (nat_lit 113, o113v4 P) :: (nat_lit 115, o115v4 P) :: (nat_lit 116, o116v4 P) :: (nat_lit 118, o118v4 P) :: (nat_lit 119, o119v4 P) :: (nat_lit 120, o120v4 P) :: (nat_lit 122, o122v4 P) :: (nat_lit 123, o123v4 P) :: (nat_lit 125, o125v4 P) :: (nat_lit 126, o126v4 P) :: (nat_lit 127, o127v4 P) :: (nat_lit 129, o129v4 P) :: (nat_lit 130, o130v4 P) :: (nat_lit 132, o132v4 P) :: (nat_lit 133, o133v4 P) :: (nat_lit 134, o134v4 P) :: (nat_lit 136, o136v4 P) :: (nat_lit 137, o137v4 P) :: (nat_lit 139, o139v4 P) :: (nat_lit 140, o140v4 P) :: (nat_lit 141, o141v4 P) :: (nat_lit 143, o143v4 P) :: (nat_lit 144, o144v4 P) :: (nat_lit 146, o146v4 P) :: (nat_lit 147, o147v4 P) :: (nat_lit 148, o148v4 P) :: (nat_lit 150, o150v4 P) :: (nat_lit 151, o151v4 P) :: (nat_lit 153, o153v4 P) :: (nat_lit 154, o154v4 P) :: (nat_lit 155, o155v4 P) :: (nat_lit 157, o157v4 P) :: (nat_lit 158, o158v4 P) :: (nat_lit 160, o160v4 P) :: (nat_lit 161, o161v4 P) :: (nat_lit 162, o162v4 P) :: (nat_lit 164, o164v4 P) :: (nat_lit 165, o165v4 P) :: (nat_lit 167, o167v4 P) :: (nat_lit 168, o168v4 P) :: (nat_lit 169, o169v4 P) :: (nat_lit 171, o171v4 P) :: (nat_lit 172, o172v4 P) :: (nat_lit 174, o174v4 P) :: (nat_lit 175, o175v4 P) :: (nat_lit 176, o176v4 P) :: (nat_lit 179, o179v4 P) :: (nat_lit 180, o180v4 P) :: (nat_lit 181, o181v4 P) :: (nat_lit 184, o184v4 P) :: (nat_lit 185, o185v4 P) :: []
noncomputable def KKas : List Addr := (nat_lit 2) :: (nat_lit 3) :: (nat_lit 6) :: (nat_lit 11) :: (nat_lit 12) :: (nat_lit 35) :: (nat_lit 36) :: (nat_lit 40) :: (nat_lit 41) :: (nat_lit 42) :: (nat_lit 44) :: (nat_lit 45) :: (nat_lit 47) :: (nat_lit 48) :: (nat_lit 56) :: (nat_lit 60) :: (nat_lit 62) :: (nat_lit 63) :: (nat_lit 65) :: (nat_lit 66) :: (nat_lit 67) :: (nat_lit 106) :: (nat_lit 108) :: (nat_lit 109) :: (nat_lit 111) :: (nat_lit 112) :: (nat_lit 113) :: (nat_lit 115) :: (nat_lit 116) :: (nat_lit 118) :: (nat_lit 119) :: (nat_lit 120) :: (nat_lit 122) :: (nat_lit 123) :: (nat_lit 125) :: (nat_lit 126) :: (nat_lit 127) :: (nat_lit 129) :: (nat_lit 130) :: (nat_lit 132) :: (nat_lit 133) :: (nat_lit 134) :: (nat_lit 136) :: (nat_lit 137) :: (nat_lit 139) :: (nat_lit 140) :: (nat_lit 141) :: (nat_lit 143) :: (nat_lit 144) :: (nat_lit 146) :: (nat_lit 147) :: (nat_lit 148) :: (nat_lit 150) :: (nat_lit 151) :: (nat_lit 153) :: (nat_lit 154) :: (nat_lit 155) :: (nat_lit 157) :: (nat_lit 158) :: (nat_lit 160) :: (nat_lit 161) :: (nat_lit 162) :: (nat_lit 164) :: (nat_lit 165) :: (nat_lit 167) :: (nat_lit 168) :: (nat_lit 169) :: (nat_lit 171) :: (nat_lit 172) :: (nat_lit 174) :: (nat_lit 175) :: (nat_lit 176) :: (nat_lit 179) :: (nat_lit 180) :: (nat_lit 181) :: (nat_lit 184) :: (nat_lit 185) :: []
theorem KK_as : ∀ P, KKas = (KK P).map (·.1) := fun P => by kernel_rfl!
noncomputable def qv : Program := { pw with main := { pw.main with body := [stmtAt 0, stmtAt 1, stmtAt 4, stmtAt 5, stmtAt 6, stmtAt 8, stmtAt 10, stmtAt 11, stmtAt 12, stmtAt 13, stmtAt 14, stmtAt 15, stmtAt 16, stmtAt 17, stmtAt 18, stmtAt 19, stmtAt 20, stmtAt 21, stmtAt 22, stmtAt 23] } }
noncomputable def looseN : List Str := [Str.ofString "_twin_re_1", Str.ofString "_twin_re_2", Str.ofString "b1_set", Str.ofString "b3_exceptions"]
noncomputable abbrev HK : Hook := kHook KK KKas KK_as
noncomputable abbrev rr : OpenRow := PySem.Challenge.rw_st0021_01.row
noncomputable def XtQ (s : Shared) : Bool := xlAt qv [] s && recOk (RowW.records rr.toRowW) s
noncomputable abbrev Sf (w : World) (os : OsState) : Shared := ⟨Hf w.params, #[], drawn0, kf, os⟩
theorem l_obs (w : World) : (fun os => HK.obs (Sf w os)) = fun _ => HK.val w := by kernel_rfl!
theorem l_first (w : World) : (fun os => (staticsOk (importedModules pw.main.body) (H0 w.params) (Hf w.params) && namesBound pw (Hf w.params) && gensDone (Sf w os) && laidKept (H0 w.params) (Hf w.params))) = fun _ => true := by kernel_rfl!
end Mine
end
section
set_option maxRecDepth 100000
set_option maxHeartbeats 0
set_option linter.unusedVariables false
namespace Mine
open PySem PySem.W PySem.Calls PyProof.Rows
theorem l_a (w : World) (os : OsState) : seen ((recsOf qv).map (·.name)) (ownsOf qv) [] { Sf w os with gens := #[] } = expectedOf qv := by kernel_rfl!
theorem l_b (w : World) (os : OsState) : (Sf w os).heap.bltView = bltViewBooted := by kernel_rfl!
theorem l_d (w : World) (os : OsState) : tabsOk qv (Sf w os) = true := by kernel_rfl!
theorem l_e (w : World) (os : OsState) : pinSeenD qv (drecsOf qv) (Sf w os) = pinGoodD (drecsOf qv) := by kernel_rfl!
theorem l_f (w : World) (os : OsState) : plainSeenE qv (looseW qv looseN) (Sf w os) = plainGoodE qv (looseW qv looseN) := by kernel_rfl!
theorem l_g (w : World) (os : OsState) : plainSeenD qv looseN (Sf w os) = plainGoodD qv looseN := by kernel_rfl!
theorem l_h (w : World) (os : OsState) : wideSeen qv (Sf w os) = wideGood qv := by kernel_rfl!
theorem l_i (w : World) (os : OsState) : clsSeenW qv looseN (Sf w os) = clsGoodW qv looseN := by kernel_rfl!
theorem l_c (w : World) (os : OsState) : ((Sf w os).heap.keysOk (looseW qv looseN) ((recsOf qv).map (·.name)) ((litsOf qv).map (·.1)) ((clssOf qv (looseW qv looseN)).map (·.name)) && (Sf w os).heap.accountedOkI (importedModules pw.main.body) && (Sf w os).heap.isNs mainGlobals && (Sf w os).heap.isNs builtinsNs && tablesOk qv (Sf w os).heap && XtQ (Sf w os) && (if true then (Sf w os).gens.size == 0 else !leftWithCleanup (Sf w os).gens)) = true := by kernel_rfl!
end Mine
end
section
set_option maxRecDepth 100000
set_option maxHeartbeats 4000000
set_option linter.unusedVariables false
namespace Mine
open PySem PySem.W PySem.Calls PyProof.Rows

section
variable {w : World}
noncomputable def Go (w : World) (k : Nat) (s : Shared) (t : Thread) (s' : Shared) (t' : Thread) : Prop := ∃ n, n ≤ k ∧ segGo treeTable pw w 28 ann0 1 n s t = some (s', t')
theorem segGo_add : ∀ (a b : Nat) {s s' s'' : Shared} {t t' t'' : Thread}, segGo treeTable pw w 28 ann0 1 a s t = some (s', t') → segGo treeTable pw w 28 ann0 1 b s' t' = some (s'', t'') → segGo treeTable pw w 28 ann0 1 (a + b) s t = some (s'', t'')
  | 0, b, s, s', s'', t, t', t'', h, k => by
    obtain ⟨rfl, rfl⟩ : s = s' ∧ t = t' := by simpa [segGo] using h
    rw [Nat.zero_add]; exact k
  | a + 1, b, s, s', s'', t, t', t'', h, k => by
    rw [show a + 1 + b = a + b + 1 by omega]
    unfold segGo at h ⊢
    cases he : endAt 1 t with
    | some f => rw [he] at h; cases h
    | none =>
      rw [he] at h
      cases hk : stepOk 28 ann0 t with
      | false => rw [hk] at h; cases h
      | true =>
        rw [hk] at h
        cases hs : PySem.step (denote treeTable) pw w s t with
        | halt o s₂ => rw [hs] at h; cases h
        | go s₂ t₂ => rw [hs] at h; exact segGo_add a b h k
theorem Go.refl {s : Shared} {t : Thread} : Go w 0 s t s t := ⟨0, Nat.le_refl _, rfl⟩
theorem Go.trans {a b : Nat} {s s' s'' : Shared} {t t' t'' : Thread} (x : Go w a s t s' t') (y : Go w b s' t' s'' t'') : Go w (a + b) s t s'' t'' :=
  let ⟨n, hn, h⟩ := x; let ⟨m, hm, k⟩ := y; ⟨n + m, Nat.add_le_add hn hm, segGo_add n m h k⟩
theorem Go.le {a b : Nat} {s s' : Shared} {t t' : Thread} (x : Go w a s t s' t') (h : a ≤ b) : Go w b s t s' t' := let ⟨n, hn, e⟩ := x; ⟨n, Nat.le_trans hn h, e⟩
theorem Go.one {s s' : Shared} {t t' : Thread} (he : endAt 1 t = none) (hk : stepOk 28 ann0 t = true) (hs : PySem.step (denote treeTable) pw w s t = .go s' t') : Go w 1 s t s' t' :=
  ⟨1, Nat.le_refl _, by unfold segGo; rw [he]; dsimp only; rw [hk]; dsimp only; rw [hs]; rfl⟩
theorem Go.cons {k : Nat} {s s' s'' : Shared} {t t' t'' : Thread} (he : endAt 1 t = none) (hk : stepOk 28 ann0 t = true) (hs : PySem.step (denote treeTable) pw w s t = .go s' t') (y : Go w k s' t' s'' t'') : Go w (k + 1) s t s'' t'' := by
  rw [Nat.add_comm]; exact (Go.one he hk hs).trans y

/-- the tree x, run from s at p, ends in a at s' and p', whatever stands behind it -/
noncomputable def G {α : Type} (w : World) (k : Nat) (x : Sem α) (p : Pos) (s : Shared) (a : α) (p' : Pos) (s' : Shared) : Prop :=
  ∀ (K : α → Sem Fin) (H : Value → Sem Fin) (gd : Bool → Bool) (lv : List Value → List Value) (c : Code), Go w k s ⟨x.wrap K H gd lv, c, p, B0⟩ s' ⟨K a, c, p', B0⟩
variable {α β : Type} {k k' : Nat} {p p' p'' : Pos} {s s' s'' : Shared} {a : α} {b : β}
theorem G.le {x : Sem α} (h : G w k x p s a p' s') (e : k ≤ k') : G w k' x p s a p' s' := fun K H gd lv c => (h K H gd lv c).le e
theorem G.pure : G w 0 (pure a : Sem α) p s a p s := fun K H gd lv c => Go.refl
theorem G.bind {x : Sem α} {f : α → Sem β} (h : G w k x p s a p' s') (h' : G w k' (f a) p' s' b p'' s'') : G w (k + k') (x >>= f) p s b p'' s'' := fun K H gd lv c => by
  have e : (x >>= f).wrap K H gd lv = x.wrap (fun a => (f a).wrap K H gd lv) H gd lv := by
    rw [Sem.bind_eq_wrap', Sem.wrap_wrap]; rfl
  rw [e]
  exact (h _ H gd lv c).trans (h' K H gd lv c)
theorem G.keep {x : Sem α} {vs : List Value} (h : G w k x p s a p' s') : G w k (x.keep vs) p s a p' s' := fun K H gd lv c => by
  rw [Sem.keep_eq_wrap, Sem.wrap_wrap]
  exact h _ _ _ _ c
theorem G.holding {x : Sem α} {vs : List Value} (h : G w k x p s a p' s') : G w k (holding vs x) p s a p' s' := by
  unfold PySem.holding
  split
  · exact h
  · exact h.keep
theorem G.onRaise {x : Sem α} {f : Value → Sem Unit} (h : G w k x p s a p' s') : G w k (x.onRaise f) p s a p' s' := fun K H gd lv c => by
  rw [Sem.onRaise_eq_wrap, Sem.wrap_wrap]
  exact h _ _ _ _ c
theorem G.tryCatch {x : Sem α} {f : Value → Sem α} (h : G w k x p s a p' s') : G w k (x.tryCatch f) p s a p' s' := fun K H gd lv c => by
  rw [Sem.tryCatch_eq_wrap, Sem.wrap_wrap]
  exact h _ _ _ _ c
theorem G.rule' {t : String} {f : Unit → Sem α} (h : G w k (f ()) p s a p' s') : G w (k + 1) (.rule t f) p s a p' s' := fun K H gd lv c => Go.cons rfl rfl rfl (h K H gd lv c)
theorem G.rule {t : String} : G w 1 (rule t) p s () p s := G.rule' (k := 0) G.pure
theorem G.at {q : Pos} : G w 1 (standAt q) p s () q s := fun K H gd lv c => Go.cons rfl rfl rfl Go.refl
theorem G.fresh : G w 1 fresh p s s.toks p { s with toks := s.toks + 1 } := fun K H gd lv c => Go.cons rfl rfl rfl Go.refl
theorem G.mkInt {i : Int} : G w 1 (mkInt i) p s (.int i s.toks) p { s with toks := s.toks + 1 } := fun K H gd lv c => Go.cons rfl rfl rfl Go.refl
theorem G.mkText {x : Str} : G w 1 (mkText x) p s (.str x s.toks) p { s with toks := s.toks + 1 } := fun K H gd lv c => Go.cons rfl rfl rfl Go.refl
theorem G.ask : G w 1 ask p s ⟨pw, w.params⟩ p s := fun K H gd lv c => Go.cons rfl rfl rfl Go.refl
theorem G.loadPart {d : Addr} {q : Option Value} {o : Obj} (h : s.heap.get? d = some o) : G w 1 (loadPart d q) p s o p s := fun K H gd lv c =>
  Go.cons rfl rfl (by obtain ⟨heap, gens, drawn, toks, os⟩ := s; unfold PySem.step; dsimp only [PySem.loadPart, Sem.wrap]; rw [h]) Go.refl
theorem G.load {d : Addr} {o : Obj} (h : s.heap.get? d = some o) : G w 1 (load d) p s o p s := G.loadPart h
theorem G.updatePart {d : Addr} {q : Option Value} {o : Obj} {f : Obj → Obj} (h : s.heap.get? d = some o) (hd : 28 ≤ d) : G w 1 (updatePart d q f) p s () p { s with heap := s.heap.update d f } := fun K H gd lv c =>
  Go.cons rfl (by
    show (_ && _) = true
    dsimp only [PySem.updatePart, Sem.wrap]
    rw [show Nat.ble 28 d = true from Nat.ble_eq_true_of_le hd]; rfl)
    (by obtain ⟨heap, gens, drawn, toks, os⟩ := s; unfold PySem.step; dsimp only [PySem.updatePart, Sem.wrap]; rw [h]; rfl) Go.refl
theorem G.alloc {o : Obj} : G w 1 (alloc o) p s s.heap.objs.size p { s with heap := s.heap.push o } := fun K H gd lv c => Go.cons rfl rfl rfl Go.refl
theorem G.ofEq {x y : Sem α} (e : x = y) (h : G w k y p s a p' s') : G w k x p s a p' s' := e ▸ h
end
end Mine
end
section
set_option maxRecDepth 100000
set_option maxHeartbeats 4000000
set_option linter.unusedVariables false
namespace Mine
open PySem PySem.W PySem.Calls PyProof.Rows
section
variable {w : World} {p : Pos} {s : Shared}
noncomputable def rawH (x : Int) : Int := let h : Int := x.natAbs % (2 ^ 61 - 1 : Nat); let h := if x < 0 then -h else h; if h == -1 then -2 else h
theorem den_call (i : Int) (t : Tok) : denote treeTable (.call (.builtin "int.__hash__") ⟨[.int i t], []⟩) = .pure (.again (.builtin "int.__hash__" ⟨[.int i t], []⟩)) := by kernel_rfl!
theorem den_hash (i : Int) (t : Tok) : denote treeTable (.builtin "int.__hash__" ⟨[.int i t], []⟩) = .fresh fun tk => .pure (.done (.ret (.int (rawH i) tk))) := by kernel_rfl!
theorem rawH_small {i : Int} (h0 : 0 ≤ i) (h1 : i < 2305843009213693951) : rawH i = i := by
  unfold rawH
  have e : ((i.natAbs : Int) % ((2 ^ 61 - 1 : Nat) : Int)) = i := by
    rw [show ((2 ^ 61 - 1 : Nat) : Int) = 2305843009213693951 from by decide, show (i.natAbs : Int) = i by omega]
    exact Int.emod_eq_of_lt h0 h1
  dsimp only
  rw [e, if_neg (show ¬ i < 0 by omega)]
  have : (i == -1) = false := by simp; omega
  rw [this]; rfl
theorem noLife : ("int.__hash__".startsWith "lifetime.") = false := by decide +kernel
theorem G.callHash {i : Int} {t : Tok} (h0 : 0 ≤ i) (h1 : i < 2305843009213693951) : G w 4 (call (.builtin "int.__hash__") [.int i t]) p s (.int i s.toks) p { s with toks := s.toks + 1 } := fun K H gd lv c => by
  refine Go.cons rfl rfl rfl ?_
  rw [den_call]
  refine Go.cons rfl (by simp [stepOk, Thread.calm, Thread.atCollectorCode, Thread.yieldsInsideHandler, noLife]) W.step_again ?_
  rw [den_hash, rawH_small h0 h1]
  refine Go.cons rfl rfl rfl ?_
  refine Go.cons rfl rfl rfl ?_
  exact Go.refl
theorem slotIntHash : Slot "int" "__hash__" "int.__hash__" := slot_int_hash
theorem specialOf_int (i : Int) (t : Tok) : specialOf (.int i t) "__hash__" = pure (some (.builtin "int.__hash__")) := by
  unfold specialOf
  show typeLookup (.type "int") "__hash__" = _
  exact slotIntHash.lookup
theorem G.pyHash {i : Int} {t : Tok} (h0 : 0 ≤ i) (h1 : i < 2305843009213693951) : G w 5 (pyHash (.int i t)) p s i p { s with toks := s.toks + 1 } := by
  show G w 5 (pyHashByItsType (.int i t)) p s i p _
  unfold pyHashByItsType
  refine (G.bind (k := 0) (k' := 5) (a := ()) (p' := p) (s' := s) ?_ ?_)
  · have hv : [Value.int i t].any Value.onHeap = false := rfl
    rw [cRoomFor, if_neg (by rw [hv]; exact Bool.false_ne_true)]; exact G.pure
  rw [specialOf_int]
  refine (G.bind (k := 0) (k' := 5) G.pure ?_)
  rw [if_neg (by decide)]
  refine (G.bind (k := 0) (k' := 5) G.pure ?_)
  rw [if_neg (by decide)]
  have hc : G w 5 (callSpecialIfBoundUnlessNone? (.int i t) "__hash__" (do PySem.rule "hash.unhashable"; raiseError "TypeError" s!"unhashable type: '{← typeNameOf (.int i t)}'")) p s (some (.int i s.toks)) p { s with toks := s.toks + 1 } := by
    simp only [callSpecialIfBoundUnlessNone?, bindSpecialIfBound?]
    refine G.holding ?_
    have fin : G (α := Option Value) w 4 ((call (.builtin "int.__hash__") [.int i t] : Sem Value) >>= fun v => (Pure.pure (some v) : Sem (Option Value))) p s (some (.int i s.toks)) p { s with toks := s.toks + 1 } :=
      G.bind (k := 4) (k' := 0) (G.callHash h0 h1) G.pure
    refine G.bind (k := 1) (k' := 4) (a := some (.builtin "int.__hash__", [.int i t])) (p' := p) (s' := s) ?_ ?_
    · rw [specialOf_int]
      refine G.bind (k := 0) (k' := 1) G.pure ?_
      simp only [slotIntHash.bind]
      refine G.bind (k := 1) (k' := 0) G.ask ?_
      split
      · exact G.bind (k := 0) (k' := 0) G.pure G.pure
      · exact G.tryCatch (G.bind (k := 0) (k' := 0) G.pure G.pure)
    · simp only []
      rw [if_neg (by decide)]
      exact fin
  refine G.bind (k := 5) (k' := 0) hc ?_
  simp only []
  unfold pyHashByItsType.reduced
  rw [if_pos (by simp; omega)]
  have : (if (i == -1) = true then (-2 : Int) else i) = i := by rw [if_neg (by simp; omega)]
  rw [this]
  exact G.pure
end
end Mine
end
section
set_option maxRecDepth 100000
set_option maxHeartbeats 4000000
set_option linter.unusedVariables false
namespace Mine
open PySem PySem.W PySem.Calls PyProof.Rows
noncomputable def hp (h : Heap) (l : List Obj) : Heap := ⟨h.objs ++ l.toArray, h.life⟩
noncomputable def st (h : Heap) (os : OsState) (l : List Obj) (k : Nat) : Shared := ⟨hp h l, #[], drawn0, k, os⟩
theorem hp_nil (h : Heap) : hp h [] = h := by unfold hp; simp
theorem hp_push (h : Heap) (l : List Obj) (o : Obj) : (hp h l).push o = hp h (l ++ [o]) := by
  show (⟨(h.objs ++ l.toArray).push o, h.life⟩ : Heap) = ⟨h.objs ++ (l ++ [o]).toArray, h.life⟩
  congr 1
  apply Array.ext'
  simp
theorem hp_size (h : Heap) (l : List Obj) : (hp h l).objs.size = h.objs.size + l.length := by simp [hp]
noncomputable def dO (es : List DictEntry) : Obj := dictObj es es.length
theorem hp_get (h : Heap) (l : List Obj) (j : Nat) (es : List DictEntry) (hj : l[j]? = some (dO es)) : (hp h l).get? (h.objs.size + j) = some (dO es) := by
  unfold Heap.get? hp
  dsimp only
  rw [Array.getElem?_append_right (by omega)]
  rw [show h.objs.size + j - h.objs.size = j by omega]
  rw [List.getElem?_toArray, hj]
  rfl
theorem hp_upd (h : Heap) (l : List Obj) (j : Nat) (f : Obj → Obj) : (hp h l).update (h.objs.size + j) f = hp h (l.modify j f) := by
  have : ((h.objs ++ l.toArray).modify (h.objs.size + j) f) = h.objs ++ (l.modify j f).toArray := by
    apply Array.ext_getElem?
    intro i
    rw [Array.getElem?_modify]
    by_cases hi : i < h.objs.size
    · rw [Array.getElem?_append_left hi, Array.getElem?_append_left hi, if_neg (by omega)]
    · rw [Array.getElem?_append_right (by omega), Array.getElem?_append_right (by omega), List.getElem?_toArray, List.getElem?_toArray, List.getElem?_modify]
      by_cases e : h.objs.size + j = i
      · have ej : j = i - h.objs.size := by omega
        rw [if_pos e]; simp [ej]
      · have ej : ¬ j = i - h.objs.size := by omega
        rw [if_neg e]; simp [ej]
  show (⟨_, _⟩ : Heap) = ⟨_, _⟩
  exact congrArg (Heap.mk · h.life) this
theorem places_none {n : Nat} {f : Nat → Option Int} {h : Int} (e : ∀ i, i < n → f i ≠ some h) : placesWithHash n f h = [] := by
  unfold placesWithHash
  rw [List.filter_eq_nil_iff]
  intro i hi
  have := e i (List.mem_range.mp hi)
  simpa using this
section
variable {w : World} {p : Pos} {h : Heap} {os : OsState} {l : List Obj} {k j : Nat} {es : List DictEntry} {i : Int} {t : Tok} {v : Value}
theorem G.find (hj : l[j]? = some (dO es)) (hn : ∀ e ∈ es, e.hash ≠ i) : G w 1 (dictFind (h.objs.size + j) (.int i t) i) p (st h os l k) none p (st h os l k) := by
  unfold dictFind
  refine G.holding ?_
  unfold dictEntries
  refine G.bind (k := 1) (k' := 0) (a := es.toArray) (p' := p) (s' := st h os l k) (G.bind (k := 1) (k' := 0) (G.loadPart (hp_get h l j es hj)) ?_) ?_
  · exact G.pure
  have hp0 : placesWithHash es.toArray.size (fun i => es.toArray[i]?.map (·.hash)) i = [] := places_none fun m hm => by
    rw [List.getElem?_toArray]
    intro q
    obtain ⟨e, he, q⟩ := Option.map_eq_some_iff.mp q
    exact hn e (List.mem_of_getElem? he) q
  dsimp only
  rw [hp0]
  exact G.pure
theorem modify_set {l : List Obj} {j : Nat} {o : Obj} {f : Obj → Obj} (hj : l[j]? = some o) : l.modify j f = l.set j (f o) := by
  apply List.ext_getElem?
  intro i
  rw [List.getElem?_modify, List.getElem?_set]
  by_cases e : j = i
  · subst e
    obtain ⟨q1, q2⟩ := List.getElem?_eq_some_iff.mp hj
    simp [q1, q2]
  · simp [e]
theorem G.push {e : DictEntry} {q : Option Value} (hj : l[j]? = some (dO es)) (h28 : 28 ≤ h.objs.size) (hz : es.length ≤ 1000) :
    G w 3 (updateDictKeys (h.objs.size + j) (·.push e) q) p (st h os l k) () p (st h os (l.set j (dO (es ++ [e]))) k) := by
  have hu : (st h os l k).heap.update (h.objs.size + j) (Obj.mapDictKeys (·.push e)) = hp h (l.set j (dO (es ++ [e]))) := by
    show (hp h l).update _ _ = _
    rw [hp_upd, modify_set hj]
    unfold dO dictObj
    dsimp only [Obj.mapDictKeys]
    simp
  have hj' : (l.set j (dO (es ++ [e])))[j]? = some (dO (es ++ [e])) := by
    rw [List.getElem?_set, if_pos rfl, if_pos (List.getElem?_eq_some_iff.mp hj).1]
  unfold updateDictKeys
  refine G.bind (k := 1) (k' := 2) (G.loadPart (hp_get h l j es hj)) ?_
  dsimp only [dO, dictObj]
  refine G.bind (k := 1) (k' := 1) (G.updatePart (hp_get h l j es hj) (Nat.le_trans h28 (Nat.le_add_right _ _))) ?_
  rw [hu]
  unfold lookBehind
  refine G.bind (k := 1) (k' := 0) (G.loadPart (hp_get h _ j _ hj')) ?_
  dsimp only [dO, dictObj, Data.pastItsLine]
  rw [if_neg (by rw [List.size_toArray, List.length_append, List.length_singleton, sizeLine_eq]; omega)]
  exact G.pure
theorem G.set (hj : l[j]? = some (dO es)) (hn : ∀ e ∈ es, e.hash ≠ i) (h28 : 28 ≤ h.objs.size) (hz : es.length ≤ 1000) (h0 : 0 ≤ i) (h1 : i < 2305843009213693951) :
    G w 10 (dictSet (h.objs.size + j) (.int i t) v) p (st h os l k) () p (st h os (l.set j (dO (es ++ [⟨i, .int i t, v⟩]))) (k + 1)) := by
  unfold dictSet
  refine G.holding (G.bind (k := 5) (k' := 5) (G.pyHash h0 h1) ?_)
  show G w 5 (dictSetHashed (h.objs.size + j) (.int i t) i v) p (st h os l (k + 1)) _ _ _
  unfold dictSetHashed
  refine G.holding (G.bind (k := 1) (k' := 4) (G.find hj hn) ?_)
  dsimp only
  exact G.bind (k := 1) (k' := 3) G.rule (G.push hj h28 hz)
theorem G.put (hj : l[j]? = some (dO es)) (hn : ∀ e ∈ es, e.hash ≠ i) (h28 : 28 ≤ h.objs.size) (hz : es.length ≤ 1000) :
    G w 4 (dictPut (h.objs.size + j) i (.int i t) v) p (st h os l k) () p (st h os (l.set j (dO (es ++ [⟨i, .int i t, v⟩]))) k) := by
  unfold dictPut
  refine G.bind (k := 1) (k' := 3) (G.find hj hn) ?_
  dsimp only
  exact G.push hj h28 hz
end
end Mine
end
section
set_option maxRecDepth 100000
set_option maxHeartbeats 4000000
set_option linter.unusedVariables false
namespace Mine
open PySem PySem.W PySem.Calls PyProof.Rows
section
variable {w : World} {q : Pos} {h : Heap} {os : OsState}
noncomputable def valOf (q : Pos) (x : Str) : Sem Value := do let v ← mkText x; standAt q; pure v
noncomputable def pairOf (q : Pos) (c : Int × Str) : Sem Value × Sem Value := (mkInt c.1, valOf q c.2)
noncomputable def Good (cs : List (Int × Str)) : Prop := ∀ c ∈ cs, 0 ≤ c.1 ∧ c.1 < 2305843009213693951
noncomputable def Apart (es : List DictEntry) (cs : List (Int × Str)) : Prop := (∀ e ∈ es, ∀ c ∈ cs, e.hash ≠ c.1) ∧ (cs.map (·.1)).Nodup
theorem Apart.tail {es : List DictEntry} {c : Int × Str} {cs : List (Int × Str)} {e : DictEntry} (he : e.hash = c.1) (a : Apart es (c :: cs)) : Apart (es ++ [e]) cs := by
  obtain ⟨a1, a2⟩ := a
  rw [List.map_cons, List.nodup_cons] at a2
  refine ⟨fun x hx y hy => ?_, a2.2⟩
  rcases List.mem_append.mp hx with hx | hx
  · exact a1 x hx y (.tail _ hy)
  · rw [List.mem_singleton.mp hx, he]
    intro z
    exact a2.1 (z ▸ List.mem_map_of_mem hy)
theorem G.val {x : Str} {l : List Obj} {k : Nat} : G w 2 (valOf q x) q (st h os l k) (.str x k) q (st h os l (k + 1)) :=
  G.bind (k := 1) (k' := 1) G.mkText (G.bind (k := 1) (k' := 0) G.at G.pure)
theorem set_set {l : List Obj} {j : Nat} {a b : Obj} : (l.set j a).set j b = l.set j b := by simp
theorem get_set {l : List Obj} {j : Nat} {a b : Obj} (hj : l[j]? = some a) : (l.set j b)[j]? = some b := by
  rw [List.getElem?_set, if_pos rfl, if_pos (List.getElem?_eq_some_iff.mp hj).1]
theorem gLoop {j : Nat} (h28 : 28 ≤ h.objs.size) : ∀ (cs : List (Int × Str)) (es : List DictEntry) (l : List Obj) (k : Nat), l[j]? = some (dO es) → Good cs → Apart es cs → es.length + cs.length ≤ 1000 →
    G w (13 * cs.length) (forIn (cs.map (pairOf q)) PUnit.unit (fun (x : Sem Value × Sem Value) (r : PUnit) => (match x with | (a, b) => (do let kv ← a; let vv ← holding [kv] b; holding [kv, vv] (dictSet (h.objs.size + j) kv vv); pure (ForInStep.yield PUnit.unit) : Sem (ForInStep PUnit))))) q (st h os l k)
      PUnit.unit q (st h os (l.set j (dO (es ++ entsLong k cs))) (k + 3 * cs.length))
  | [], es, l, k, hj, hg, ha, hz => by
    have : l.set j (dO (es ++ entsLong k [])) = l := by
      show l.set j (dO (es ++ [])) = l
      rw [List.append_nil]
      apply List.ext_getElem?
      intro i
      rw [List.getElem?_set]
      by_cases e : j = i
      · subst e; rw [if_pos rfl, if_pos (List.getElem?_eq_some_iff.mp hj).1, hj]
      · rw [if_neg e]
    rw [this]
    exact G.pure
  | c :: cs, es, l, k, hj, hg, ha, hz => by
    rw [List.map_cons, List.forIn_cons]
    have hc := hg c (.head _)
    simp only [List.length_cons] at hz ⊢
    refine G.le (k := 13 + 13 * cs.length) ?_ (by omega)
    refine G.bind (k := 13) (k' := 13 * cs.length) (a := ForInStep.yield PUnit.unit) (p' := q) (s' := st h os (l.set j (dO (es ++ [⟨c.1, .int c.1 k, .str c.2 (k + 1)⟩]))) (k + 1 + 1 + 1)) ?_ ?_
    · refine G.bind (k := 1) (k' := 12) G.mkInt ?_
      refine G.bind (k := 2) (k' := 10) (G.holding G.val) ?_
      exact G.bind (k := 10) (k' := 0) (G.holding (G.set hj (fun e he => ha.1 e he c (.head _)) h28 (by omega) hc.1 hc.2)) G.pure
    · have r := gLoop h28 cs (es ++ [⟨c.1, .int c.1 k, .str c.2 (k + 1)⟩]) (l.set j (dO (es ++ [⟨c.1, .int c.1 k, .str c.2 (k + 1)⟩]))) (k + 1 + 1 + 1) (get_set hj) (fun x hx => hg x (.tail _ hx)) (ha.tail rfl) (by simp; omega)
      rw [set_set, List.append_assoc] at r
      rw [show k + 3 * (cs.length + 1) = k + 1 + 1 + 1 + 3 * cs.length by omega]
      exact r
end
end Mine
end
section
set_option maxRecDepth 100000
set_option maxHeartbeats 4000000
set_option linter.unusedVariables false
namespace Mine
open PySem PySem.W PySem.Calls PyProof.Rows
section
variable {w : World} {q : Pos} {h : Heap} {os : OsState}
noncomputable def pairVals (k : Nat) : List (Int × Str) → List (Value × Value)
  | [] => []
  | c :: r => (.int c.1 k, .str c.2 (k + 1)) :: pairVals (k + 2) r
theorem gPairs {l : List Obj} : ∀ (cs : List (Int × Str)) (k : Nat), G w (3 * cs.length) (evalPairs (cs.map (pairOf q))) q (st h os l k) (pairVals k cs) q (st h os l (k + 2 * cs.length))
  | [], k => G.pure
  | c :: cs, k => by
    rw [List.map_cons]
    simp only [List.length_cons]
    show G w (3 * (cs.length + 1)) (evalPairs ((mkInt c.1, valOf q c.2) :: cs.map (pairOf q))) q _ _ q _
    unfold evalPairs
    refine G.le (k := 1 + (2 + 3 * cs.length)) ?_ (by omega)
    refine G.bind (k := 1) (k' := 2 + 3 * cs.length) G.mkInt ?_
    refine G.bind (k := 2) (k' := 3 * cs.length) (G.holding G.val) ?_
    refine G.bind (k := 3 * cs.length) (k' := 0) (G.holding (gPairs cs (k + 2))) ?_
    rw [show k + 2 * (cs.length + 1) = k + 2 + 2 * cs.length by omega]
    exact G.pure
theorem gSets {j : Nat} (h28 : 28 ≤ h.objs.size) : ∀ (cs : List (Int × Str)) (es : List DictEntry) (l : List Obj) (k t : Nat), l[j]? = some (dO es) → Good cs → Apart es cs → es.length + cs.length ≤ 1000 →
    G w (10 * cs.length) (forIn (pairVals t cs) PUnit.unit (fun (x : Value × Value) (r : PUnit) => (match x with | (a, b) => (do dictSet (h.objs.size + j) a b; pure (ForInStep.yield PUnit.unit) : Sem (ForInStep PUnit))))) q (st h os l k)
      PUnit.unit q (st h os (l.set j (dO (es ++ entsShort t cs))) (k + cs.length))
  | [], es, l, k, t, hj, hg, ha, hz => by
    have : l.set j (dO (es ++ entsShort t [])) = l := by
      show l.set j (dO (es ++ [])) = l
      rw [List.append_nil]
      apply List.ext_getElem?
      intro i
      rw [List.getElem?_set]
      by_cases e : j = i
      · subst e; rw [if_pos rfl, if_pos (List.getElem?_eq_some_iff.mp hj).1, hj]
      · rw [if_neg e]
    rw [this]
    exact G.pure
  | c :: cs, es, l, k, t, hj, hg, ha, hz => by
    show G w _ (forIn ((Value.int c.1 t, Value.str c.2 (t + 1)) :: pairVals (t + 2) cs) PUnit.unit _) _ _ _ _ _
    rw [List.forIn_cons]
    have hc := hg c (.head _)
    simp only [List.length_cons] at hz ⊢
    refine G.le (k := 10 + 10 * cs.length) ?_ (by omega)
    refine G.bind (k := 10) (k' := 10 * cs.length) (a := ForInStep.yield PUnit.unit) (p' := q) (s' := st h os (l.set j (dO (es ++ [⟨c.1, .int c.1 t, .str c.2 (t + 1)⟩]))) (k + 1)) ?_ ?_
    · exact G.bind (k := 10) (k' := 0) (G.set hj (fun e he => ha.1 e he c (.head _)) h28 (by omega) hc.1 hc.2) G.pure
    · have r := gSets h28 cs (es ++ [⟨c.1, .int c.1 t, .str c.2 (t + 1)⟩]) (l.set j (dO (es ++ [⟨c.1, .int c.1 t, .str c.2 (t + 1)⟩]))) (k + 1) (t + 2) (get_set hj) (fun x hx => hg x (.tail _ hx)) (ha.tail rfl) (by simp; omega)
      rw [set_set, List.append_assoc] at r
      rw [show k + (cs.length + 1) = k + 1 + cs.length by omega]
      exact r
theorem app_last {l : List Obj} {o : Obj} : (l ++ [o])[l.length]? = some o := by simp
theorem app_set {l : List Obj} {o o' : Obj} : (l ++ [o]).set l.length o' = l ++ [o'] := by simp
theorem gSubLong {l : List Obj} {k : Nat} {cs : List (Int × Str)} (h28 : 28 ≤ h.objs.size) (hg : Good cs) (ha : Apart [] cs) (hz : cs.length ≤ 1000) (h15 : 15 < cs.length) :
    G w (2 + 13 * cs.length) (subDict (cs.map (pairOf q))) q (st h os l k) (h.objs.size + l.length) q (st h os (l ++ [dO (entsLong k cs)]) (k + 3 * cs.length)) := by
  unfold subDict
  refine G.le (k := 1 + (1 + 13 * cs.length)) ?_ (by omega)
  have ea : (st h os l k).heap.objs.size = h.objs.size + l.length := hp_size h l
  have e1 : ({ st h os l k with heap := (st h os l k).heap.push { cls := .type "dict", data := .dict #[] } } : Shared) = st h os (l ++ [dO []]) k := by
    unfold st
    dsimp only
    rw [hp_push]
    rfl
  refine G.bind (k := 1) (k' := 1 + 13 * cs.length) (a := h.objs.size + l.length) (p' := q) (s' := st h os (l ++ [dO []]) k) ?_ ?_
  · have := G.alloc (w := w) (p := q) (s := st h os l k) (o := { cls := .type "dict", data := .dict #[] })
    rw [ea, e1] at this
    exact this
  refine G.bind (k := 1 + 13 * cs.length) (k' := 0) (a := ()) (p' := q) (s' := st h os (l ++ [dO (entsLong k cs)]) (k + 3 * cs.length)) (G.holding ?_) G.pure
  rw [if_neg (by rw [List.length_map]; omega)]
  refine G.bind (k := 1) (k' := 13 * cs.length) G.rule ?_
  have r := gLoop (w := w) (q := q) (os := os) (j := l.length) h28 cs [] (l ++ [dO []]) k app_last hg ha (by simpa using hz)
  rw [app_set, List.nil_append] at r
  exact G.bind (k := 13 * cs.length) (k' := 0) r G.pure
theorem gSubShort {l : List Obj} {k : Nat} {cs : List (Int × Str)} (h28 : 28 ≤ h.objs.size) (hg : Good cs) (ha : Apart [] cs) (h15 : cs.length ≤ 15) :
    G w (1 + 13 * cs.length) (subDict (cs.map (pairOf q))) q (st h os l k) (h.objs.size + l.length) q (st h os (l ++ [dO (entsShort k cs)]) (k + 3 * cs.length)) := by
  unfold subDict
  have ea : (st h os l k).heap.objs.size = h.objs.size + l.length := hp_size h l
  have e1 : ({ st h os l k with heap := (st h os l k).heap.push { cls := .type "dict", data := .dict #[] } } : Shared) = st h os (l ++ [dO []]) k := by
    unfold st
    dsimp only
    rw [hp_push]
    rfl
  refine G.bind (k := 1) (k' := 13 * cs.length) (a := h.objs.size + l.length) (p' := q) (s' := st h os (l ++ [dO []]) k) ?_ ?_
  · have := G.alloc (w := w) (p := q) (s := st h os l k) (o := { cls := .type "dict", data := .dict #[] })
    rw [ea, e1] at this
    exact this
  refine G.bind (k := 13 * cs.length) (k' := 0) (a := ()) (p' := q) (s' := st h os (l ++ [dO (entsShort k cs)]) (k + 3 * cs.length)) (G.holding ?_) G.pure
  rw [if_pos (by rw [List.length_map]; omega)]
  refine G.le (k := 3 * cs.length + 10 * cs.length) ?_ (by omega)
  refine G.bind (k := 3 * cs.length) (k' := 10 * cs.length) (gPairs cs k) (G.holding ?_)
  have r := gSets (w := w) (q := q) (os := os) (j := l.length) h28 cs [] (l ++ [dO []]) (k + 2 * cs.length) k app_last hg ha (by simp; omega)
  rw [app_set, List.nil_append] at r
  rw [show k + 3 * cs.length = k + 2 * cs.length + cs.length by omega]
  exact G.bind (k := 10 * cs.length) (k' := 0) r G.pure
end
end Mine
end
section
set_option maxRecDepth 100000
set_option maxHeartbeats 4000000
set_option linter.unusedVariables false
namespace Mine
open PySem PySem.W PySem.Calls PyProof.Rows
theorem subDictDict : isSubtype (.type "dict") (.type "dict") = pure true := by rw [isSubtype_type]; kernel_rfl
theorem iterDict : typeLookup (.type "dict") "__iter__" = pure (some (.builtin "dict.__iter__")) := by rw [typeLookup_type, builtinLookup_eq_fast]; kernel_rfl
section
variable {w : World} {q : Pos} {h : Heap} {os : OsState}
theorem gTypeOf {l : List Obj} {k j : Nat} {es : List DictEntry} (hj : l[j]? = some (dO es)) : G w 1 (typeOf (.ref (h.objs.size + j))) q (st h os l k) (.type "dict") q (st h os l k) := by
  show G w 1 (do return (← loadPart (h.objs.size + j) (some headPart)).cls) _ _ _ _ _
  exact G.bind (k := 1) (k' := 0) (G.loadPart (hp_get h l j es hj)) G.pure
theorem gEntries {l : List Obj} {k j : Nat} {es : List DictEntry} (hj : l[j]? = some (dO es)) : G w 1 (dictEntries (h.objs.size + j)) q (st h os l k) es.toArray q (st h os l k) := by
  unfold dictEntries
  refine G.bind (k := 1) (k' := 0) (G.loadPart (hp_get h l j es hj)) ?_
  exact G.pure
theorem gEpoch {l : List Obj} {k j : Nat} {es : List DictEntry} (hj : l[j]? = some (dO es)) : G w 1 (dictEpoch (h.objs.size + j)) q (st h os l k) es.length q (st h os l k) := by
  unfold dictEpoch
  refine G.bind (k := 1) (k' := 0) (G.loadPart (hp_get h l j es hj)) ?_
  exact G.pure
noncomputable def IntKeyed (es : List DictEntry) : Prop := ∀ e ∈ es, ∃ t, e.key = .int e.hash t
noncomputable def ApartE (es fs : List DictEntry) : Prop := (∀ e ∈ es, ∀ f ∈ fs, e.hash ≠ f.hash) ∧ (fs.map (·.hash)).Nodup
theorem ApartE.tail {es fs : List DictEntry} {f : DictEntry} (a : ApartE es (f :: fs)) : ApartE (es ++ [f]) fs := by
  obtain ⟨a1, a2⟩ := a
  rw [List.map_cons, List.nodup_cons] at a2
  refine ⟨fun x hx y hy => ?_, a2.2⟩
  rcases List.mem_append.mp hx with hx | hx
  · exact a1 x hx y (.tail _ hy)
  · rw [List.mem_singleton.mp hx]
    intro z
    exact a2.1 (z ▸ List.mem_map_of_mem hy)
theorem gMergeLoop {j i : Nat} (hne : j ≠ i) (h28 : 28 ≤ h.objs.size) (all : List DictEntry) : ∀ (fs pre es : List DictEntry) (l : List Obj) (k : Nat), l[j]? = some (dO es) → l[i]? = some (dO all) → all = pre ++ fs → IntKeyed fs → ApartE es fs → es.length + fs.length ≤ 1000 →
    G w (6 * fs.length) (forIn (List.range' pre.length fs.length) PUnit.unit (fun (n : Nat) (r : PUnit) => (do
        let some e := (← dictEntries (h.objs.size + i))[n]? | unsupported "dict.changed-during-merge"
        holding [e.key, e.val] do
          dictPut (h.objs.size + j) e.hash e.key e.val
        if (← dictEpoch (h.objs.size + i)) != all.length then unsupported "dict.changed-during-merge"
        pure (ForInStep.yield PUnit.unit) : Sem (ForInStep PUnit)))) q (st h os l k)
      PUnit.unit q (st h os (l.set j (dO (es ++ fs))) k)
  | [], pre, es, l, k, hj, hi, e, hk, ha, hz => by
    have : l.set j (dO (es ++ [])) = l := by
      rw [List.append_nil]
      apply List.ext_getElem?
      intro i
      rw [List.getElem?_set]
      by_cases e : j = i
      · subst e; rw [if_pos rfl, if_pos (List.getElem?_eq_some_iff.mp hj).1, hj]
      · rw [if_neg e]
    rw [this]
    exact G.pure
  | f :: fs, pre, es, l, k, hj, hi, e, hk, ha, hz => by
    obtain ⟨t, hkey⟩ := hk f (.head _)
    simp only [List.length_cons] at hz ⊢
    rw [List.range'_succ, List.forIn_cons]
    refine G.le (k := 6 + 6 * fs.length) ?_ (by omega)
    have hi' : (l.set j (dO (es ++ [f])))[i]? = some (dO all) := by rw [List.getElem?_set, if_neg hne]; exact hi
    refine G.bind (k := 6) (k' := 6 * fs.length) (a := ForInStep.yield PUnit.unit) (p' := q) (s' := st h os (l.set j (dO (es ++ [f]))) k) ?_ ?_
    · refine G.bind (k := 1) (k' := 5) (gEntries hi) ?_
      have en : all.toArray[pre.length]? = some f := by rw [List.getElem?_toArray, e]; simp
      rw [en]
      dsimp only
      have hp := G.put (w := w) (p := q) (os := os) (k := k) (i := f.hash) (t := t) (v := f.val) hj (fun x hx => ha.1 x hx f (.head _)) h28 (by omega)
      rw [← hkey] at hp
      refine G.bind (k := 4) (k' := 1) (G.holding hp) ?_
      refine G.bind (k := 1) (k' := 0) (gEpoch hi') ?_
      rw [if_neg (by simp)]
      exact G.pure
    · have r := gMergeLoop hne h28 all fs (pre ++ [f]) (es ++ [f]) (l.set j (dO (es ++ [f]))) k (get_set hj) hi' (by simp [e]) (fun x hx => hk x (.tail _ hx)) ha.tail (by simp; omega)
      rw [set_set, List.append_assoc, List.length_append] at r
      exact r
theorem gMerge {j i : Nat} {l : List Obj} {k : Nat} {es fs : List DictEntry} (hne : j ≠ i) (h28 : 28 ≤ h.objs.size) (hj : l[j]? = some (dO es)) (hi : l[i]? = some (dO fs)) (he : es ≠ []) (hk : IntKeyed fs) (ha : ApartE es fs) (hz : es.length + fs.length ≤ 1000) :
    G w (5 + 6 * fs.length) (mergeMapping (h.objs.size + j) (.ref (h.objs.size + i)) false) q (st h os l k) () q (st h os (l.set j (dO (es ++ fs))) k) := by
  unfold mergeMapping
  refine G.le (k := 1 + (1 + (3 + 6 * fs.length))) ?_ (by omega)
  refine G.bind (k := 1) (k' := 1 + (3 + 6 * fs.length)) (a := true) (p' := q) (s' := st h os l k) ?_ ?_
  · unfold isInstance
    refine G.bind (k := 1) (k' := 0) (gTypeOf hi) ?_
    rw [subDictDict]; exact G.pure
  rw [if_pos rfl]
  refine G.bind (k := 1) (k' := 3 + 6 * fs.length) (a := some (.builtin "dict.__iter__")) (p' := q) (s' := st h os l k) ?_ ?_
  · unfold specialOf
    refine G.bind (k := 1) (k' := 0) (gTypeOf hi) ?_
    rw [iterDict]; exact G.pure
  have : (some (Value.builtin "dict.__iter__") == some (Value.builtin "dict.__iter__")) = true := by simp
  rw [this]
  refine G.le (k := 0 + (3 + 6 * fs.length)) (G.bind (k := 0) (k' := 3 + 6 * fs.length) G.pure ?_) (by omega)
  dsimp only
  rw [if_neg (by show ¬ ((h.objs.size + i == 1) = true); simp; omega)]
  refine G.le (k := 1 + (2 + 6 * fs.length)) ?_ (by omega)
  refine G.bind (k := 1) (k' := 2 + 6 * fs.length) (gEntries hj) ?_
  rw [if_neg (by simpa using he)]
  refine G.le (k := 1 + (1 + 6 * fs.length)) ?_ (by omega)
  refine G.bind (k := 1) (k' := 1 + 6 * fs.length) (gEntries hi) ?_
  refine G.bind (k := 1) (k' := 6 * fs.length) (gEpoch hi) ?_
  have r := gMergeLoop (w := w) (q := q) (os := os) hne h28 fs fs [] es l k hj hi rfl hk ha hz
  rw [List.length_nil, ← List.range_eq_range'] at r
  refine G.bind (k := 6 * fs.length) (k' := 0) (a := PUnit.unit) ?_ G.pure
  rw [List.size_toArray]
  exact r
end
end Mine
end
section
set_option maxRecDepth 100000
set_option maxHeartbeats 4000000
set_option linter.unusedVariables false
namespace Mine
open PySem PySem.W PySem.Calls PyProof.Rows
noncomputable def flushT (run : List (Sem Value × Sem Value)) (main : Option Addr) : Sem (Option Addr) :=
  if run.isEmpty = true then pure main
  else match main with
    | none => do
      let d ← subDict run
      pure (some d)
    | some d => do
      let sub ← holding [Value.ref d] (subDict run)
      (holding [Value.ref d, Value.ref sub] (mergeMapping d (Value.ref sub) false)).onRaise fun x => do
          let _ ← holding [Value.ref d, x] (runValue (Code.builtin "proto.let_go" { }))
          pure ()
      pure (some d)
noncomputable abbrev DItem := Option (Sem Value) × Sem Value
noncomputable abbrev DSt := Option Addr × List (Sem Value × Sem Value)
noncomputable def itemOf (q : Pos) (c : Int × Str) : DItem := (some (mkInt c.1), valOf q c.2)
noncomputable def BodyLike (B : DItem → DSt → Sem (ForInStep DSt)) : Prop := ∀ k v main run, B (some k, v) (main, run) =
  if ((run ++ [(k, v)]).length == 17) = true then (do let m ← flushT (run ++ [(k, v)]) main; pure (ForInStep.yield (m, []))) else pure (ForInStep.yield (main, run ++ [(k, v)]))
theorem acc_items {q : Pos} {B : DItem → DSt → Sem (ForInStep DSt)} (hB : BodyLike B) (main : Option Addr) (rest : List DItem) : ∀ (cs : List (Int × Str)) (run : List (Sem Value × Sem Value)), run.length + cs.length < 17 →
    forIn (cs.map (itemOf q) ++ rest) (main, run) B = forIn rest (main, run ++ cs.map (pairOf q)) B
  | [], run, _ => by simp
  | c :: cs, run, h => by
    simp only [List.length_cons] at h
    rw [List.map_cons, List.cons_append, List.forIn_cons]
    show (B (some (mkInt c.1), valOf q c.2) (main, run) >>= _) = _
    rw [hB, if_neg (by simp; omega)]
    show forIn (cs.map (itemOf q) ++ rest) (main, run ++ [(mkInt c.1, valOf q c.2)]) B = _
    rw [acc_items hB main rest cs _ (by simp; omega), List.append_assoc]
    rfl
section
variable {w : World} {q : Pos} {h : Heap} {os : OsState}
theorem gChunk {B : DItem → DSt → Sem (ForInStep DSt)} (hB : BodyLike B) {c : List (Int × Str)} (hc : c.length = 17) {main m : Option Addr} {rest : List DItem} {k1 k2 : Nat} {s s' s'' : Shared} {r : DSt}
    (h1 : G w k1 (flushT (c.map (pairOf q)) main) q s m q s') (h2 : G w k2 (forIn rest (m, []) B) q s' r q s'') : G w (k1 + k2) (forIn (c.map (itemOf q) ++ rest) (main, []) B) q s r q s'' := by
  obtain ⟨init, last, rfl⟩ : ∃ init last, c = init ++ [last] := by
    rcases List.eq_nil_or_concat c with e | ⟨i, l, e⟩
    · subst e; simp at hc
    · exact ⟨i, l, by simpa using e⟩
  have hi : init.length = 16 := by simp at hc; omega
  rw [List.map_append, List.append_assoc, acc_items hB main _ init [] (by simp; omega)]
  simp only [List.map_cons, List.map_nil, List.nil_append, List.cons_append]
  rw [List.forIn_cons]
  show G w _ (B (some (mkInt last.1), valOf q last.2) (main, init.map (pairOf q)) >>= _) _ _ _ _ _
  rw [hB, if_pos (by simp; omega)]
  rw [List.map_append] at h1
  refine G.bind (k := k1) (k' := k2) (a := ForInStep.yield (m, [])) (p' := q) (s' := s') ?_ h2
  exact G.bind (k := k1) (k' := 0) h1 G.pure
theorem entsLong_append : ∀ (a b : List (Int × Str)) (k : Nat), entsLong k (a ++ b) = entsLong k a ++ entsLong (k + 3 * a.length) b
  | [], b, k => rfl
  | (i, x) :: a, b, k => by
    show _ :: entsLong (k + 3) (a ++ b) = _ :: (entsLong (k + 3) a ++ _)
    rw [entsLong_append a b (k + 3), show k + 3 + 3 * a.length = k + 3 * (a.length + 1) by omega]; rfl
theorem entsLong_hash : ∀ (a : List (Int × Str)) (k : Nat), (entsLong k a).map (·.hash) = a.map (·.1)
  | [], k => rfl
  | (i, x) :: a, k => by show i :: _ = i :: _; rw [entsLong_hash a (k + 3)]
theorem entsShort_hash : ∀ (a : List (Int × Str)) (k : Nat), (entsShort k a).map (·.hash) = a.map (·.1)
  | [], k => rfl
  | (i, x) :: a, k => by show i :: _ = i :: _; rw [entsShort_hash a (k + 2)]
theorem entsLong_int : ∀ (a : List (Int × Str)) (k : Nat), IntKeyed (entsLong k a)
  | [], k => fun _ hx => nomatch hx
  | (i, x) :: a, k => fun e he => by
    rcases List.mem_cons.mp he with rfl | he
    · exact ⟨k, rfl⟩
    · exact entsLong_int a (k + 3) e he
theorem entsShort_int : ∀ (a : List (Int × Str)) (k : Nat), IntKeyed (entsShort k a)
  | [], k => fun _ hx => nomatch hx
  | (i, x) :: a, k => fun e he => by
    rcases List.mem_cons.mp he with rfl | he
    · exact ⟨k, rfl⟩
    · exact entsShort_int a (k + 2) e he
theorem apartE_of {es fs : List DictEntry} (h : ((es ++ fs).map (·.hash)).Nodup) : ApartE es fs := by
  rw [List.map_append, List.nodup_append] at h
  refine ⟨fun e he f hf => ?_, h.2.1⟩
  exact h.2.2 _ (List.mem_map_of_mem he) _ (List.mem_map_of_mem hf)
theorem apart_nil {cs : List (Int × Str)} (h : (cs.map (·.1)).Nodup) : Apart [] cs := ⟨fun _ hx => (nomatch hx), h⟩
/-- one run more is laid apart and merged -/
theorem gNext {es fs : List DictEntry} {subs : List Obj} {k k' n : Nat} {run : List (Sem Value × Sem Value)} (hr : run ≠ []) (h28 : 28 ≤ h.objs.size)
    (hs : G w n (subDict run) q (st h os (dO es :: subs) k) (h.objs.size + (subs.length + 1)) q (st h os (dO es :: subs ++ [dO fs]) k'))
    (he : es ≠ []) (hk : IntKeyed fs) (ha : ((es ++ fs).map (·.hash)).Nodup) (hz : es.length + fs.length ≤ 1000) :
    G w (n + (5 + 6 * fs.length)) (flushT run (some h.objs.size)) q (st h os (dO es :: subs) k) (some h.objs.size) q (st h os (dO (es ++ fs) :: (subs ++ [dO fs])) k') := by
  unfold flushT
  rw [if_neg (by simpa using hr)]
  refine G.bind (k := n) (k' := 5 + 6 * fs.length) (G.holding hs) ?_
  have m := gMerge (w := w) (q := q) (os := os) (k := k') (j := 0) (i := subs.length + 1) (l := dO es :: subs ++ [dO fs]) (by omega) h28 rfl (by simp) he hk (apartE_of ha) hz
  refine G.bind (k := 5 + 6 * fs.length) (k' := 0) (G.onRaise (G.holding m)) ?_
  exact G.pure
noncomputable def chunkObjs (k : Nat) : List (List (Int × Str)) → List Obj
  | [] => []
  | c :: css => dO (entsLong k c) :: chunkObjs (k + 51) css
theorem entsLong_length : ∀ (a : List (Int × Str)) (k : Nat), (entsLong k a).length = a.length
  | [], k => rfl
  | (i, x) :: a, k => by show (entsLong (k + 3) a).length + 1 = a.length + 1; rw [entsLong_length a (k + 3)]
theorem entsShort_length : ∀ (a : List (Int × Str)) (k : Nat), (entsShort k a).length = a.length
  | [], k => rfl
  | (i, x) :: a, k => by show (entsShort (k + 2) a).length + 1 = a.length + 1; rw [entsShort_length a (k + 2)]
theorem gChunks {B : DItem → DSt → Sem (ForInStep DSt)} (hB : BodyLike B) (h28 : 28 ≤ h.objs.size) {rest : List DItem} {k2 : Nat} {s'' : Shared} {r : DSt} : ∀ (css : List (List (Int × Str))) (es : List DictEntry) (subs : List Obj) (k : Nat),
    (∀ c ∈ css, c.length = 17 ∧ Good c) → es ≠ [] → ((es ++ entsLong k css.flatten).map (·.hash)).Nodup → es.length + css.flatten.length ≤ 1000 →
    G w k2 (forIn rest (some h.objs.size, []) B) q (st h os (dO (es ++ entsLong k css.flatten) :: (subs ++ chunkObjs k css)) (k + 51 * css.length)) r q s'' →
    G w (400 * css.length + k2) (forIn ((css.flatMap (·.map (itemOf q))) ++ rest) (some h.objs.size, []) B) q (st h os (dO es :: subs) k) r q s''
  | [], es, subs, k, hc, he, hn, hz, hr => by
    simp only [List.flatten_nil, entsLong, List.append_nil, chunkObjs, List.length_nil, Nat.mul_zero, Nat.add_zero, List.flatMap_nil, List.nil_append, Nat.zero_add] at hr ⊢
    exact hr
  | c :: css, es, subs, k, hc, he, hn, hz, hr => by
    obtain ⟨h17, hg⟩ := hc c (.head _)
    simp only [List.flatten_cons, List.length_append, List.length_cons] at hz hr hn ⊢
    rw [List.flatMap_cons, List.append_assoc]
    have hl := entsLong_length c k
    rw [entsLong_append, h17, ← List.append_assoc] at hn
    have hnc : (c.map (·.1)).Nodup := by
      rw [List.map_append, List.map_append, List.nodup_append, List.nodup_append, entsLong_hash] at hn
      exact hn.1.2.1
    have hn1 : ((es ++ entsLong k c).map (·.hash)).Nodup := by
      rw [List.map_append, List.nodup_append] at hn; exact hn.1
    refine G.le (k := (2 + 13 * c.length + (5 + 6 * (entsLong k c).length)) + (400 * css.length + k2)) ?_ (by omega)
    have hs := gSubLong (w := w) (q := q) (os := os) (l := dO es :: subs) (k := k) h28 hg (apart_nil hnc) (by omega) (by omega)
    rw [h17] at hs
    refine gChunk hB h17 (gNext (run := c.map (pairOf q)) (fs := entsLong k c) (k' := k + 51) (n := 2 + 13 * c.length) (by intro e; have := congrArg List.length e; simp at this; simp [this] at h17) h28 (by rw [h17]; exact hs) he (entsLong_int c k) hn1 (by omega)) ?_
    refine gChunks hB h28 css (es ++ entsLong k c) (subs ++ [dO (entsLong k c)]) (k + 51) (fun x hx => hc x (.tail _ hx)) (by simp [he]) (by simpa using hn) (by rw [List.length_append]; omega) ?_
    rw [entsLong_append, h17] at hr
    simp only [chunkObjs] at hr
    rw [List.append_assoc, List.append_assoc, show k + 51 + 51 * css.length = k + 51 * (css.length + 1) by omega]
    exact hr
end
end Mine
end
section
set_option maxRecDepth 100000
set_option maxHeartbeats 4000000
set_option linter.unusedVariables false
namespace Mine
open PySem PySem.W PySem.Calls PyProof.Rows
theorem display_eq (items : List DItem) : ∃ B, BodyLike B ∧ dictDisplay items = (forIn items ((none, []) : DSt) B >>= fun s => flushT s.2 s.1 >>= fun m => match m with | some d => pure (Value.ref d) | none => newDict) := by
  refine ⟨_, ?_, rfl⟩
  intro k v main run
  rfl
noncomputable def c0 : List (Int × Str) := cells.take 17
noncomputable def css : List (List (Int × Str)) := (List.range 37).map fun j => (cells.drop (17 * (j + 1))).take 17
noncomputable def crest : List (Int × Str) := cells.drop 646
theorem cells_parts : cells = c0 ++ (css.flatten ++ crest) := by kernel_rfl!
noncomputable def goodB (cs : List (Int × Str)) : Bool := cs.all fun c => decide (0 ≤ c.1) && decide (c.1 < 2305843009213693951)
noncomputable def incr : List (Int × Str) → Bool
  | [] => true
  | [_] => true
  | a :: b :: r => decide (a.1 < b.1) && incr (b :: r)
theorem cells_good : goodB cells = true := by kernel_rfl!
theorem cells_incr : incr cells = true := by kernel_rfl!
theorem c0_len : c0.length = 17 := by kernel_rfl!
theorem css_len : (css.all fun c => c.length == 17) = true := by kernel_rfl!
theorem css_size : css.flatten.length = 629 := by kernel_rfl!
theorem css_n : css.length = 37 := by kernel_rfl!
theorem crest_len : crest.length = 4 := by kernel_rfl!
theorem good_of {cs : List (Int × Str)} (h : goodB cs = true) : Good cs := fun c hc => by
  have := List.all_eq_true.mp h c hc
  simpa using this
theorem incr_lt : ∀ (cs : List (Int × Str)) (a : Int × Str), incr (a :: cs) = true → ∀ c ∈ cs, a.1 < c.1
  | [], a, h, c, hc => nomatch hc
  | b :: r, a, h, c, hc => by
    unfold incr at h
    obtain ⟨h1, h2⟩ := Bool.and_eq_true_iff.mp h
    have h1 := of_decide_eq_true h1
    rcases List.mem_cons.mp hc with rfl | hc
    · exact h1
    · exact Int.lt_trans h1 (incr_lt r b h2 c hc)
theorem incr_nodup : ∀ (cs : List (Int × Str)), incr cs = true → (cs.map (·.1)).Nodup
  | [], h => List.nodup_nil
  | [a], h => by simp
  | a :: b :: r, h => by
    rw [List.map_cons, List.nodup_cons]
    have h' := h
    unfold incr at h'
    refine ⟨fun q => ?_, incr_nodup (b :: r) (Bool.and_eq_true_iff.mp h').2⟩
    obtain ⟨c, hc, e⟩ := List.mem_map.mp q
    have := incr_lt (b :: r) a h c hc
    omega
noncomputable def b3list : List Obj := dO (entsLong 420 (c0 ++ css.flatten) ++ entsShort 2358 crest) :: (chunkObjs 471 css ++ [dO (entsShort 2358 crest)])
section
variable {w : World} {q : Pos} {h : Heap} {os : OsState}
theorem gDisplay (h28 : 28 ≤ h.objs.size) : G w 16000 (dictDisplay (cells.map (itemOf q))) q (st h os [] 420) (.ref h.objs.size) q (st h os b3list 2370) := by
  have hg := good_of cells_good
  have hn := incr_nodup _ cells_incr
  rw [cells_parts] at hg hn
  obtain ⟨B, hB, e⟩ := display_eq (cells.map (itemOf q))
  rw [e]
  have hl0 := entsLong_length c0 420
  have hn' : ((entsLong 420 c0 ++ entsLong 471 css.flatten ++ entsShort 2358 crest).map (·.hash)).Nodup := by
    rw [List.map_append, List.map_append, entsLong_hash, entsLong_hash, entsShort_hash, ← List.map_append, ← List.map_append, List.append_assoc]; exact hn
  have hn0 : (c0.map (·.1)).Nodup := by rw [List.map_append, List.nodup_append] at hn; exact hn.1
  have hnr : (crest.map (·.1)).Nodup := by rw [List.map_append, List.map_append, List.nodup_append, List.nodup_append] at hn; exact hn.2.1.2.1
  have hnm : ((entsLong 420 c0 ++ entsLong 471 css.flatten).map (·.hash)).Nodup := by rw [List.map_append, List.nodup_append] at hn'; exact hn'.1
  have hne : entsLong 420 c0 ≠ [] := by intro e; have := congrArg List.length e; rw [hl0, c0_len] at this; simp at this
  refine G.le (k := (2 + 13 * c0.length + (400 * css.length + 0)) + ((1 + 13 * crest.length) + (5 + 6 * (entsShort 2358 crest).length))) ?_ (by rw [c0_len, css_n, crest_len, entsShort_length, crest_len]; omega)
  refine G.bind (a := (some h.objs.size, crest.map (pairOf q))) (p' := q) (s' := st h os (dO (entsLong 420 c0 ++ entsLong 471 css.flatten) :: chunkObjs 471 css) 2358) ?_ ?_
  · have e2 : cells.map (itemOf q) = c0.map (itemOf q) ++ (css.flatMap (·.map (itemOf q)) ++ crest.map (itemOf q)) := by
      rw [cells_parts, List.map_append, List.map_append, List.map_flatten, List.flatMap_def]
    rw [e2]
    refine gChunk hB c0_len (m := some h.objs.size) (s' := st h os [dO (entsLong 420 c0)] 471) ?_ ?_
    · unfold flushT
      rw [if_neg (by rw [List.isEmpty_iff]; intro e; have := congrArg List.length e; rw [List.length_map, c0_len] at this; simp at this)]
      have hs := gSubLong (w := w) (q := q) (os := os) (l := []) (k := 420) h28 (fun c hc => hg c (List.mem_append_left _ hc)) (apart_nil hn0) (by rw [c0_len]; omega) (by rw [c0_len]; omega)
      rw [c0_len] at hs
      rw [c0_len]
      exact G.bind (k := 2 + 13 * 17) (k' := 0) hs G.pure
    · refine gChunks hB h28 css (entsLong 420 c0) [] 471 (fun c hc => ⟨by simpa using List.all_eq_true.mp css_len c hc, fun x hx => hg x (List.mem_append_right _ (List.mem_append_left _ (List.mem_flatten.mpr ⟨c, hc, hx⟩)))⟩) hne hnm (by rw [hl0, c0_len, css_size]; omega) ?_
      rw [List.nil_append, css_n]
      have := acc_items hB (q := q) (some h.objs.size) [] crest [] (by rw [crest_len]; simp)
      rw [List.append_nil, List.nil_append] at this
      rw [this, List.forIn_nil]
      exact G.pure
  · refine G.bind (k := (1 + 13 * crest.length) + (5 + 6 * (entsShort 2358 crest).length)) (k' := 0) (a := some h.objs.size) (p' := q) (s' := st h os b3list 2370) ?_ G.pure
    have hs := gSubShort (w := w) (q := q) (os := os) (l := dO (entsLong 420 c0 ++ entsLong 471 css.flatten) :: chunkObjs 471 css) (k := 2358) h28 (fun c hc => hg c (List.mem_append_right _ (List.mem_append_right _ hc))) (apart_nil hnr) (by rw [crest_len]; omega)
    have hb := gNext (w := w) (q := q) (os := os) (run := crest.map (pairOf q)) (fs := entsShort 2358 crest) (by intro e; have := congrArg List.length e; rw [List.length_map, crest_len] at this; simp at this) h28 hs (by simp [hne]) (entsShort_int crest 2358) hn' (by rw [List.length_append, hl0, c0_len, entsLong_length, css_size, entsShort_length, crest_len]; omega)
    have eb : b3list = dO (entsLong 420 c0 ++ entsLong 471 css.flatten ++ entsShort 2358 crest) :: (chunkObjs 471 css ++ [dO (entsShort 2358 crest)]) := by
      unfold b3list; rw [entsLong_append, c0_len]
    rw [eb, show (2370 : Nat) = 2358 + 3 * crest.length by rw [crest_len]]
    exact hb
end
end Mine
end
section
set_option maxRecDepth 100000
set_option maxHeartbeats 4000000
set_option linter.unusedVariables false
namespace Mine
open PySem PySem.W PySem.Calls PyProof.Rows
noncomputable abbrev qd : Pos := ⟨12, 16, 12, 8704⟩
noncomputable def b3keys : List (Option Expr) := (dictParts (stmtAt 9)).1
noncomputable def b3vals : List Expr := (dictParts (stmtAt 9)).2
theorem b3_stmt : stmtAt 9 = .Assign [.Name (Str.ofString "b3_exceptions") ⟨12, 0, 12, 13⟩] (.Dict b3keys b3vals qd) ⟨12, 0, 12, 8704⟩ := by kernel_rfl!
theorem b3_sts : sts 8 1 = [stmtAt 9] := by kernel_rfl!
theorem b3_items : ((evalEachOpt b3keys env0).zip ((evalEach b3vals env0).map fun v => do let x ← v; standAt qd; pure x)) = cells.map (itemOf qd) := by kernel_rfl!
noncomputable def T3' (P : Params) : BT := (T3 P).set 3 fun _ => o3v2 P
theorem b3_state (w : World) (os : OsState) : st (absHeap (T2 w.params) n2 {}) os b3list 2370 = (SharedT.mk (T3' w.params) n3 {} #[] drawn0 2370 os).abs := by kernel_rfl!
theorem b3_start (w : World) (os : OsState) : (SharedT.mk (T2 w.params) n2 {} #[] drawn0 k2 os).abs = st (absHeap (T2 w.params) n2 {}) os [] 420 := by
  unfold st; rw [hp_nil]; rfl
theorem b3_store (w : World) (os : OsState) (K : Flow → Sem PySem.Fin) (H : Value → Sem PySem.Fin) (gd : Bool → Bool) (lv : List Value → List Value) (c : Code) :
    segGoT treeTable pw w 28 ann0 1 7 (SharedT.mk (T3' w.params) n3 {} #[] drawn0 2370 os) ⟨(assignStores env0 (.ref 67) none ((assignEach [.Name (Str.ofString "b3_exceptions") ⟨12, 0, 12, 13⟩] env0).map (·.2))).wrap K H gd lv, c, qd, B0⟩
      = some (SharedT.mk (T3 w.params) n3 {} #[] drawn0 k3 os, ⟨K .next, c, pos3, B0⟩) := by kernel_rfl!
theorem gStore (w : World) (os : OsState) : G w 7 (assignStores env0 (.ref 67) none ((assignEach [.Name (Str.ofString "b3_exceptions") ⟨12, 0, 12, 13⟩] env0).map (·.2))) qd (st (absHeap (T2 w.params) n2 {}) os b3list 2370) .next pos3
    (SharedT.mk (T3 w.params) n3 {} #[] drawn0 k3 os).abs := fun K H gd lv c => ⟨7, Nat.le_refl _, by rw [b3_state]; exact segGo_of (b3_store w os K H gd lv c)⟩
theorem swaps_no : swapsWithSole [.Name (Str.ofString "b3_exceptions") ⟨12, 0, 12, 13⟩] (.Dict b3keys b3vals qd) 12 env0 = pure false := rfl
theorem swapped_no : swappedStores [.Name (Str.ofString "b3_exceptions") ⟨12, 0, 12, 13⟩] (.Dict b3keys b3vals qd) env0 = pure none := rfl
theorem gStmt (w : World) (os : OsState) : G w 16100 (execs (sts 8 1) env0) pos2 (SharedT.mk (T2 w.params) n2 {} #[] drawn0 k2 os).abs .next pos3 (SharedT.mk (T3 w.params) n3 {} #[] drawn0 k3 os).abs := by
  rw [b3_sts, b3_start]
  have h67 : (absHeap (T2 w.params) n2 {}).objs.size = 67 := absHeap_size _ _ _
  have ex : G w 16090 (exec (stmtAt 9) env0) pos2 (st (absHeap (T2 w.params) n2 {}) os [] 420) .next pos3 (SharedT.mk (T3 w.params) n3 {} #[] drawn0 k3 os).abs := by
    rw [b3_stmt, exec_Assign]
    refine G.le (k := 1 + (0 + ((1 + 16000) + 7))) ?_ (by omega)
    refine G.bind (k := 1) G.at ?_
    rw [swaps_no]
    refine G.bind (k := 0) G.pure ?_
    rw [if_neg (by decide)]
    refine G.bind (k := 1 + 16000) (k' := 7) (a := Value.ref 67) (p' := qd) (s' := st (absHeap (T2 w.params) n2 {}) os b3list 2370) ?_ ?_
    · show G w _ (do standAt qd; dictDisplay ((evalEachOpt b3keys env0).zip ((evalEach b3vals env0).map fun v => do let x ← v; standAt qd; pure x))) _ _ _ _ _
      rw [b3_items]
      refine G.bind (k := 1) G.at ?_
      have := gDisplay (w := w) (q := qd) (h := absHeap (T2 w.params) n2 {}) (os := os) (by rw [h67]; omega)
      rw [h67] at this
      exact this
    · rw [swapped_no]
      refine G.le (k := 0 + 7) (G.bind (k := 0) (k' := 7) G.pure (gStore w os)) (by omega)
  show G w 16100 (do let f ← exec (stmtAt 9) env0; match f with | .next => execs [] env0 | f => pure f) _ _ _ _ _
  exact G.le (k := 16090 + 0) (G.bind (k := 16090) (k' := 0) ex G.pure) (by omega)
theorem p_3 (w : World) (os : OsState) : ∃ n, n ≤ 16101 ∧ segRun treeTable pw w 28 ann0 1 n (SharedT.mk (T2 w.params) n2 {} #[] drawn0 k2 os).abs (piecesOf (sts 8 1) env0 cE pos2 B0) = some (.next, (SharedT.mk (T3 w.params) n3 {} #[] drawn0 k3 os).abs, cE, pos3) := by
  obtain ⟨n, hn, h⟩ := gStmt w os doneF deadEnd id id cE
  exact ⟨n + 1, by omega, seg_go h rfl⟩
end Mine
end
section
set_option maxRecDepth 100000
set_option maxHeartbeats 0
set_option linter.unusedVariables false
namespace Mine
open PySem PySem.W PySem.Calls PyProof.Rows
noncomputable def P2 (w : World) : Prop := (fun os => segRunT treeTable pw w 28 ann0 1 1028 (SharedT.mk (T1 w.params) n1 {} #[] drawn0 k1 os) (piecesOf (sts 6 2) env0 cE pos1 B0)) = fun os => some (.next, SharedT.mk (T2 w.params) n2 {} #[] drawn0 k2 os, cE, pos2)
theorem p_2ff (w : World) : P2 ((w.withFollow "special-get-raises" false).withFollow "set-order" false) := by
  unfold P2; rw [PySem.W.Fast.te10110043849684766642, PySem.W.Fast.te14364793385576792824]; kernel_rfl!
theorem p_2tf (w : World) : P2 ((w.withFollow "special-get-raises" true).withFollow "set-order" false) := by
  unfold P2; rw [PySem.W.Fast.te10110043849684766642, PySem.W.Fast.te14364793385576792824]; kernel_rfl!
theorem p_2ft (w : World) : P2 ((w.withFollow "special-get-raises" false).withFollow "set-order" true) := by
  unfold P2; rw [PySem.W.Fast.te10110043849684766642, PySem.W.Fast.te14364793385576792824]; kernel_rfl!
theorem p_2tt (w : World) : P2 ((w.withFollow "special-get-raises" true).withFollow "set-order" true) := by
  unfold P2; rw [PySem.W.Fast.te10110043849684766642, PySem.W.Fast.te14364793385576792824]; kernel_rfl!
theorem p_2 : ∀ w : World, (fun os => segRunT treeTable pw w 28 ann0 1 1028 (SharedT.mk (T1 w.params) n1 {} #[] drawn0 k1 os) (piecesOf (sts 6 2) env0 cE pos1 B0)) = fun os => some (.next, SharedT.mk (T2 w.params) n2 {} #[] drawn0 k2 os, cE, pos2) := by
  intro w
  exact byRow2 (P := P2) "set-order" (fun w => byRow2 (P := fun w => P2 (w.withFollow "set-order" false)) "special-get-raises" p_2ff p_2tf w) (fun w => byRow2 (P := fun w => P2 (w.withFollow "set-order" true)) "special-get-raises" p_2ft p_2tt w) w
end Mine
end
section
set_option maxRecDepth 100000
set_option maxHeartbeats 4000000
set_option linter.unusedVariables false
namespace Mine
open PySem PySem.W PySem.Calls PyProof.Rows
theorem seg1 {w : World} {os : OsState} {N : Nat} {s s' : SharedT} {t : Thread} {f : Flow} {c : Code} {q : Pos} {F G' : OsState → Option (Flow × SharedT × Code × Pos)} (h : F = G') (e : F os = segRunT treeTable pw w 28 ann0 1 N s t) (e' : G' os = some (f, s', c, q)) :
    segRun treeTable pw w 28 ann0 1 N s.abs t = some (f, s'.abs, c, q) := segRun_of (e.symm.trans ((congrFun h os).trans e'))
theorem bE_parts : bE = sts 0 6 ++ (sts 6 2 ++ (sts 8 1 ++ (sts 9 14 ++ []))) := by kernel_rfl!
theorem p_run (w : World) (os : OsState) : topRun treeTable pw w 28 ann0 30000 ⟨H0 w.params, #[], drawn0, k0, os⟩ (topStub pw) = some (Sf w os) := by
  obtain ⟨n3, hn3, h3⟩ := p_3 w os
  have hf : topRun treeTable pw w 28 ann0 2 ((SharedT.mk (T4 w.params) n4 {} #[] drawn0 k4 os).abs) ⟨doneF .next, cE, pos4, B0⟩ = some (Sf w os) := congrFun (p_fin w) os
  have r0 := piece_nil (env := env0) (c := cE) hf
  have r1 := piece_app (env := env0) (seg1 (p_4 w) (os := os) rfl rfl) r0
  have r2 := piece_app (env := env0) h3 r1
  have r3 := piece_app (env := env0) (seg1 (p_2 w) (os := os) rfl rfl) r2
  have r4 := piece_app (env := env0) (seg1 (p_1 w) (os := os) rfl rfl) r3
  rw [← bE_parts] at r4
  have r5 := piece_block (congrFun (p_block w) os) r4
  have r6 := go_top (congrFun (p_pre w) os) r5
  have := topRun_mono (30000 - (12 + (1 + (201 + (1028 + (n3 + (377 + 2))))))) _ _ _ _ r6
  rw [show 12 + (1 + (201 + (1028 + (n3 + (377 + 2))))) + (30000 - (12 + (1 + (201 + (1028 + (n3 + (377 + 2))))))) = 30000 by omega] at this
  exact this
theorem p_looks (w : World) : (fun os => ((staticsOk (importedModules pw.main.body) (H0 w.params) (Hf w.params) && namesBound pw (Hf w.params) && gensDone (Sf w os) && laidKept (H0 w.params) (Hf w.params)),
        openSeen qv looseN (importedModules pw.main.body) XtQ true (Sf w os), HK.obs (Sf w os))) = fun _ => (true, openGood qv looseN, HK.val w) := by
  funext os
  refine Prod.ext (congrFun (l_first w) os) (Prod.ext ?_ (congrFun (l_obs w) os))
  show (_, _) = (_, _)
  exact Prod.ext (l_a w os) (Prod.ext (l_b w os) (Prod.ext (l_c w os) (Prod.ext (l_d w os) (Prod.ext (l_e w os) (Prod.ext (l_f w os) (Prod.ext (l_g w os) (Prod.ext (l_h w os) (l_i w os))))))))
theorem left : LeftO pw qv looseN XtQ HK.obs HK.val 30000 :=
  LeftO.of_pieces (H₀ := H0) (H₁ := Hf) (gs₀ := #[]) (gs₁ := #[]) (d₀ := drawn0) (d₁ := drawn0) (k₀ := k0) (k₁ := kf) (m₀ := 28) (ann := ann0) (M := 30000) p_open p_size p_run (by decide +kernel) p_looks
noncomputable def dLaw : DefRec := { name := Str.ofString "law", params := fnParams 23, body := fnBody 23, scope := fnScope 23, pos := match stmtAt 23 with | .FunctionDef (pos := p) .. => p | _ => default }
end Mine
end
section
set_option maxRecDepth 100000
set_option maxHeartbeats 8000000
set_option linter.unusedVariables false
namespace Mine
open PySem PySem.W PySem.Calls PyProof.Rows
/-- what a call of a def of the text's gives: R says what it made and hands back -/
noncomputable def Spec (w : World) (mean : ExcName → Option Value) (mg mb : Str → Option Value) (c : Nat) (f : Addr) (vs : List Value) (news : List (Addr × Obj)) (R : List (Addr × Obj) → Value → Prop) : Prop :=
  ∀ (dp un : Nat) (gd : Option (List Code)) (cn : Str) (cs : Scope) (a : Addr) (ccd : Value) (cl : List (Str × Addr)) (outer : List Env) (A₀ : Around) (base h₀ : Heap) (L : Addr) (m : Str → Option Value) (s : Shared) (Q E : Value → Shared → Prop),
    Below A₀ base outer h₀ → Fr h₀ L s.heap m → (KK w.params).In h₀ → News h₀ L s.heap news → Top qv (looseW qv looseN) mean mg mb h₀ → cs.kind = .function →
    dp + c < recursionLimit → un + 8 * c < cLine →
    (∀ r tl h' tk', Fr h₀ L h' m → News h₀ L h' (tl ++ news) → R tl r → Q r { s with heap := h', toks := tk' }) →
    wpAny (model pw w) (ktrTop dp un gd cn cs L a ccd cl outer) (call (.ref f) vs) Q E s
theorem spec_use {w : World} {mean : ExcName → Option Value} {mg mb : Str → Option Value} {c : Nat} {f : Addr} {vs : List Value} {news : List (Addr × Obj)} {R : List (Addr × Obj) → Value → Prop}
    {dp un : Nat} {gd : Option (List Code)} {cn : Str} {cs : Scope} {a : Addr} {ccd : Value} {cl : List (Str × Addr)} {outer : List Env} {A₀ : Around} {base h₀ : Heap} {L : Addr} {m : Str → Option Value} {s : Shared} {Q E : Value → Shared → Prop}
    (S : Spec w mean mg mb c f vs news R) (B : Below A₀ base outer h₀) (F : Fr h₀ L s.heap m) (X : (KK w.params).In h₀) (N : News h₀ L s.heap news) (T : Top qv (looseW qv looseN) mean mg mb h₀) (hk : cs.kind = .function)
    (hd : dp + c < recursionLimit) (hu : un + 8 * c < cLine)
    (hret : ∀ r tl h' tk', Fr h₀ L h' m → News h₀ L h' (tl ++ news) → R tl r → Q r { s with heap := h', toks := tk' }) :
    wpAny (model pw w) (ktrTop dp un gd cn cs L a ccd cl outer) (call (.ref f) vs) Q E s := S dp un gd cn cs a ccd cl outer A₀ base h₀ L m s Q E B F X N T hk hd hu hret
/-- a mark that halts the walk -/
noncomputable def Stop (P : Prop) : Prop := P
theorem stop_here {P : Prop} (h : Stop P) : P := h
theorem subNews {h₀ h : Heap} {L : Addr} {a b : List (Addr × Obj)} (N : News h₀ L h a) (s : ∀ p ∈ b, p ∈ a) : News h₀ L h b := fun p hp => N p (s p hp)
/-- a pair of texts: a sign, and what is written for it -/
noncomputable abbrev pairO (sp wr : List Nat) (t1 t2 : Tok) : Obj := { cls := .type "tuple", data := .seq #[.str ⟨sp.toArray⟩ t1, .str ⟨wr.toArray⟩ t2] }
noncomputable def RSign (sp wr : List Nat) (tl : List (Addr × Obj)) (r : Value) : Prop := ∃ a t1 t2, r = .ref a ∧ tl = [(a, pairO sp wr t1 t2)]
end Mine
end
section
theorem Mine.fresh_WNothing : True := by w_top off; trivial
set_option maxRecDepth 100000
set_option maxHeartbeats 8000000
set_option linter.unusedVariables false
namespace Mine
open PySem PySem.W PySem.Calls PyProof.Rows
theorem fill_now : (fun P => KK P) = KK ∧ PySem.Challenge.rw_st0021_01 = PySem.Challenge.rw_st0021_01 := by k_fill; exact ⟨rfl, rfl⟩
noncomputable def nothingCodes : List Int := [173, 847, 6150, 6155, 6156, 6157, 8203, 8204, 8205, 8288, 65279] ++ rangeInts 65024 1 16
noncomputable def nothingOf (n : Int) : Int := nothingCodes.getD (Int.fmod n 27).toNat 0
theorem nothing_bound : ∀ i : Nat, i < 27 → 0 ≤ nothingCodes.getD i 0 ∧ nothingCodes.getD i 0 ≤ 1114111 := by decide +kernel
theorem nothing_len : nothingCodes.length = 27 := by decide +kernel
theorem ints11 {t1 t2 t3 t4 t5 t6 t7 t8 t9 t10 t11 : Tok} : IntsAre [.int 173 t1, .int 847 t2, .int 6150 t3, .int 6155 t4, .int 6156 t5, .int 6157 t6, .int 8203 t7, .int 8204 t8, .int 8205 t9, .int 8288 t10, .int 65279 t11] [173, 847, 6150, 6155, 6156, 6157, 8203, 8204, 8205, 8288, 65279] := by
  repeat (first | exact .nil | refine .cons _ _ ?_)
set_option pp.deepTerms.threshold 6
theorem spec_nothing (w : World) (mean mg mb) (n : Int) (t : Tok) (news) (h0 : 0 ≤ n) : Spec w mean mg mb 2 133 [.int n t] news (fun tl r => ∃ tk, r = .str ⟨#[(nothingOf n).toNat]⟩ tk ∧ tl = []) := by
  unfold Spec
  intro dp un gd cn cs a ccd cl outer A₀ base h₀ L m s Q E B F X N T hk hd hu hret
  refine wpAny_call ?_
  k_dflt cell_enter
  k_steps
  · rename CarriedAll _ _ => hC
    rename Heap.IsList _ _ _ => hl2
    rename News _ _ _ _ => N2
    have hI := IntsAre.ofCarried hC
    refine add_lists_ints (by assumption) N2 (N2.isList (.head _)) hl2 ints11 hI ?_
    intro h5 F5 N5 hI5
    k_steps
    have hm : 0 ≤ Int.fmod n 27 ∧ Int.fmod n 27 < 27 := by
      rw [Int.fmod_eq_emod_of_nonneg _ (by omega)]; omega
    have hb := nothing_bound (Int.fmod n 27).toNat (by omega)
    refine chr_of_range (i := nothingOf n) hb.1 hb.2 ?_
    k_steps
    exact hret _ [] _ _ (by assumption) (subNews (by assumption) (fun p hp => .tail _ (.tail _ hp))) ⟨_, rfl, rfl⟩
end Mine
end
section
set_option maxRecDepth 100000
set_option maxHeartbeats 8000000
set_option linter.unusedVariables false
namespace Mine
open PySem PySem.W PySem.Calls PyProof.Rows
theorem hashInt_small {i : Int} (h0 : 0 ≤ i) (h1 : i < 2305843009213693951) : hashInt i = i := by
  have e : rawHash i = i := rawH_small h0 h1
  unfold hashInt
  rw [e, if_neg (by simp; omega)]
/-- the set -/
noncomputable def setCodes : List Int := [65024, 65025, 65026, 65027, 65028, 65029, 6150, 65030, 65031, 65032, 65033, 6155, 6156, 6157, 8203, 8204, 8205, 65034, 65035, 65036, 65037, 65038, 65039, 173, 847, 8288, 65279]
noncomputable def setList (P : Params) : List (Int × Value) := match (o56v2 P).data with | .set es _ _ => es.toList | _ => []
theorem setList_codes (P : Params) : (setList P).map (·.1) = setCodes := rfl
theorem setList_ints (P : Params) : ∀ e ∈ setList P, ∃ t, e.2 = .int e.1 t := by
  intro e he
  simp only [setList, o56v2, List.mem_cons, List.not_mem_nil, or_false] at he
  rcases he with rfl | rfl | rfl | rfl | rfl | rfl | rfl | rfl | rfl | rfl | rfl | rfl | rfl | rfl | rfl | rfl | rfl | rfl | rfl | rfl | rfl | rfl | rfl | rfl | rfl | rfl | rfl <;> exact ⟨_, rfl⟩
theorem setCodes_small : ∀ i ∈ setCodes, 0 ≤ i ∧ i < 70000 := by decide
theorem set56 (P : Params) (w : World) : (o56v2 P).SetObjOf (intKind pw w) (fun k => decide (k ∈ setCodes)) 27 := by
  refine ⟨⟨rfl, rfl, rfl⟩, (setList P).toArray, _, _, rfl, ?_, ?_, rfl, by rfl⟩
  · intro e he
    have he : e ∈ setList P := by simpa using he
    obtain ⟨t, ht⟩ := setList_ints P e he
    obtain ⟨h0, h1⟩ := setCodes_small e.1 (by rw [← setList_codes P]; exact List.mem_map_of_mem he)
    refine ⟨⟨e.1, ?_, (hashInt_small h0 (by omega)).symm⟩, by rw [ht]; rfl⟩
    show Value.isInt e.1 e.2 = true
    rw [ht]; simp [Value.isInt]
  · intro k
    rw [decide_eq_true_eq]
    constructor
    · intro h
      rw [← setList_codes P] at h
      obtain ⟨e, he, rfl⟩ := List.mem_map.mp h
      obtain ⟨t, ht⟩ := setList_ints P e he
      exact ⟨e, by simpa using he, by show Value.isInt e.1 e.2 = true; rw [ht]; simp [Value.isInt]⟩
    · rintro ⟨e, he, hk⟩
      have hk : Value.isInt k e.2 = true := hk
      have he : e ∈ setList P := by simpa using he
      obtain ⟨t, ht⟩ := setList_ints P e he
      rw [ht] at hk
      simp only [Value.isInt, beq_iff_eq] at hk
      subst hk
      rw [← setList_codes P]
      exact List.mem_map_of_mem he
/-- the table -/
noncomputable def kvsOf (es : List DictEntry) : List (Int × Value) := es.map fun e => (e.hash, e.val)
theorem pairs_of {w : World} : ∀ (es : List DictEntry), IntKeyed es → Pairs (intKind pw w) es (kvsOf es)
  | [], _ => .nil
  | e :: es, h => by
    obtain ⟨t, ht⟩ := h e (.head _)
    exact .cons (by show Value.isInt e.hash e.key = true; rw [ht]; simp [Value.isInt]) rfl (pairs_of es fun x hx => h x (.tail _ hx))
theorem b3ents_eq : b3ents = entsLong 420 (c0 ++ css.flatten) ++ entsShort 2358 crest := by
  have : cells.take 646 = c0 ++ css.flatten := by
    rw [cells_parts, ← List.append_assoc, List.take_left' (by rw [List.length_append, c0_len, css_size])]
  unfold b3ents
  rw [this]; rfl
theorem b3_hash : b3ents.map (·.hash) = cells.map (·.1) := by
  rw [b3ents_eq, List.map_append, entsLong_hash, entsShort_hash, ← List.map_append, cells_parts, List.append_assoc]
theorem b3_int : IntKeyed b3ents := by
  rw [b3ents_eq]
  intro e he
  rcases List.mem_append.mp he with he | he
  · exact entsLong_int _ _ e he
  · exact entsShort_int _ _ e he
theorem b3_small : ∀ e ∈ b3ents, 0 ≤ e.hash ∧ e.hash < 2305843009213693951 := by
  intro e he
  have : e.hash ∈ cells.map (·.1) := by rw [← b3_hash]; exact List.mem_map_of_mem he
  obtain ⟨c, hc, e⟩ := List.mem_map.mp this
  rw [← e]
  exact good_of cells_good c hc
theorem dict67 (P : Params) (w : World) : (o67v3 P).IsDictOf (intKind pw w) (kvsOf b3ents) := by
  refine ⟨b3ents.toArray, 650, ⟨rfl, rfl, rfl⟩, rfl, ?_, ?_, ?_⟩
  · intro e he
    have he : e ∈ b3ents := by simpa using he
    obtain ⟨t, ht⟩ := b3_int e he
    obtain ⟨h0, h1⟩ := b3_small e he
    exact ⟨e.hash, by show Value.isInt e.hash e.key = true; rw [ht]; simp [Value.isInt], (hashInt_small h0 h1).symm⟩
  · exact pairs_of _ b3_int
  · have : (kvsOf b3ents).map (·.1) = cells.map (·.1) := by
      rw [← b3_hash]; unfold kvsOf; rw [List.map_map]; rfl
    rw [this]
    exact incr_nodup _ cells_incr
noncomputable def b3D : List (PyData × PyData) := cells.map fun c => (PyData.int c.1, PyData.str c.2)
theorem flat_long : ∀ (cs : List (Int × Str)) (k : Nat), PyProof.V.FlatPairs PyData.int (kvsOf (entsLong k cs)) (cs.map fun c => (PyData.int c.1, PyData.str c.2))
  | [], k => .nil
  | (i, x) :: r, k => .cons (PyProof.V.Flat.str _ _) (flat_long r (k + 3))
theorem flat_short : ∀ (cs : List (Int × Str)) (k : Nat), PyProof.V.FlatPairs PyData.int (kvsOf (entsShort k cs)) (cs.map fun c => (PyData.int c.1, PyData.str c.2))
  | [], k => .nil
  | (i, x) :: r, k => .cons (PyProof.V.Flat.str _ _) (flat_short r (k + 2))
theorem flat_app {a b : List (Int × Value)} {c d : List (PyData × PyData)} (h : PyProof.V.FlatPairs PyData.int a c) (h' : PyProof.V.FlatPairs PyData.int b d) : PyProof.V.FlatPairs PyData.int (a ++ b) (c ++ d) := by
  induction h with
  | nil => exact h'
  | cons x _ ih => exact .cons x ih
theorem b3_flat : PyProof.V.FlatPairs PyData.int (kvsOf b3ents) b3D := by
  unfold b3D
  rw [b3ents_eq, cells_parts, ← List.append_assoc, List.map_append]
  unfold kvsOf
  rw [List.map_append]
  exact flat_app (flat_long _ _) (flat_short _ _)
theorem tab67 {w : World} {h : Heap} (X : (KK w.params).In h) : IntTab pw w h 67 b3D := TabAt.ofObj (by decide) (X 67 _ rfl) (dict67 _ w) b3_flat
theorem setAt56 {w : World} {h : Heap} (X : (KK w.params).In h) : h.SetOf (intKind pw w) 56 (fun k => decide (k ∈ setCodes)) 27 := (set56 _ w).setOf (X 56 _ rfl) (by decide)
end Mine
end
section
theorem Mine.fresh_WB1 : True := by w_top off; trivial
set_option maxRecDepth 100000
set_option maxHeartbeats 8000000
set_option linter.unusedVariables false
namespace Mine
open PySem PySem.W PySem.Calls PyProof.Rows
example : (fun P => KK P) = KK ∧ PySem.Challenge.rw_st0021_01 = PySem.Challenge.rw_st0021_01 := by k_fill; exact ⟨rfl, rfl⟩
noncomputable def b3find (i : Int) : Option Str := (cells.find? fun c => c.1 == i).map (·.2)
theorem lookup_cells (i : Int) : ∀ cs : List (Int × Str), Spec.lookup (.int i) (cs.map fun c => (PyData.int c.1, PyData.str c.2)) = (((cs.find? fun c => c.1 == i).map (·.2)).map PyData.str)
  | [] => rfl
  | c :: cs => by
    rw [List.map_cons, List.find?_cons]
    show (if Spec.same (.int c.1) (.int i) = true then _ else _) = _
    have e : Spec.same (.int c.1) (.int i) = (c.1 == i) := by
      rw [PyProof.V.same_int]; by_cases h : c.1 = i <;> simp [h]
    rw [e]
    cases h : (c.1 == i) with
    | true => rfl
    | false => rw [if_neg (by simp)]; exact lookup_cells i cs
theorem b3lookup (i : Int) : Spec.lookup (.int i) b3D = (b3find i).map PyData.str := lookup_cells i cells
theorem lower_one (c : Nat) : Txt.lower ⟨#[c]⟩ = ⟨(Unicode.lowerAt #[c] 0).toArray⟩ := by
  unfold Txt.lower placed
  congr 1
  apply Array.ext'
  simp
set_option pp.deepTerms.threshold 6
theorem spec_b1 (w : World) (mean mg mb) (c : Nat) (t : Tok) (news) : Spec w mean mg mb 2 66 [.str ⟨#[c]⟩ t] news (fun tl r => r = .bool (decide ((c : Int) ∈ setCodes)) ∧ tl = []) := by
  unfold Spec
  intro dp un gd cn cs a ccd cl outer A₀ base h₀ L m s Q E B F X N T hk hd hu hret
  refine wpAny_call ?_
  k_dflt cell_enter
  k_steps
  · rename Frag.In _ _ => X2
    rename Fr _ _ _ _ => F2
    refine wpAny_inSet_of (k := (c : Int)) (intKind_is pw w c _) rfl (setAt56 (Frag.In.keeps X2 F2.keep)) ?_
    k_steps
    exact hret _ [] _ _ (by assumption) (by assumption) ⟨rfl, rfl⟩
theorem spec_b3 (w : World) (mean mg mb) (c : Nat) (t : Tok) (news) : Spec w mean mg mb 2 112 [.str ⟨#[c]⟩ t] news (fun tl r => ∃ tk, r = .str ((b3find c).getD ⟨(Unicode.lowerAt #[c] 0).toArray⟩) tk ∧ tl = []) := by
  unfold Spec
  intro dp un gd cn cs a ccd cl outer A₀ base h₀ L m s Q E B F X N T hk hd hu hret
  have Td := tab67 X
  refine wpAny_call ?_
  k_dflt cell_enter
  k_steps
  · rename Frag.In _ _ => X2
    rename Fr _ _ _ _ => F2
    refine call_get1_intTab (tab67 (Frag.In.keeps X2 F2.keep)) ?_
    intro v hv
    rw [b3lookup] at hv
    cases hf : b3find c with
    | some x =>
      rw [hf] at hv hret
      obtain ⟨tk, rfl⟩ := PyProof.V.Flat.str_inv hv
      k_steps
      exact hret _ [] _ _ (by assumption) (by assumption) ⟨_, rfl, rfl⟩
    | none =>
      rw [hf] at hv hret
      obtain rfl := PyProof.V.Flat.none_inv hv
      k_steps
      dsimp only
      refine SCL.lower (x := ⟨#[c]⟩) (by show (1 : Nat) ≤ _; omega) ?_
      intro hfit
      rw [lower_one]
      k_steps
      exact hret _ [] _ _ (by assumption) (by assumption) ⟨_, rfl, rfl⟩
end Mine
end
section
theorem Mine.fresh_WPrep : True := by w_top off; trivial
set_option maxRecDepth 100000
set_option maxHeartbeats 8000000
set_option linter.unusedVariables false
namespace Mine
open PySem PySem.W PySem.Calls PyProof.Rows
example : (fun P => KK P) = KK ∧ PySem.Challenge.rw_st0021_01 = PySem.Challenge.rw_st0021_01 := by k_fill; exact ⟨rfl, rfl⟩
local macro_rules | `(tactic| walk_at "exec For Name Name cons nil") => `(tactic| (refine stop_here ?_))
noncomputable def inB1 (c : Nat) : Bool := decide ((c : Int) ∈ setCodes)
noncomputable def foldCh (c : Nat) : Str := (b3find c).getD ⟨(Unicode.lowerAt #[c] 0).toArray⟩
noncomputable def prepInt : List Int → Str
  | [] => Str.ofString ""
  | c :: r => (if inB1 c.toNat then Str.ofString "" else foldCh c.toNat) ++ prepInt r
theorem prep_snoc (n : Int) : ∀ pre : List Int, prepInt (pre ++ [n]) = prepInt pre ++ (if inB1 n.toNat then Str.ofString "" else foldCh n.toNat)
  | [] => by
    show _ ++ Str.ofString "" = Str.ofString "" ++ _
    have e : Str.ofString "" = Str.empty := by decide +kernel
    rw [e, Str.append_empty, Str.empty_append]
  | c :: r => by
    show _ ++ prepInt (r ++ [n]) = _ ++ prepInt r ++ _
    rw [prep_snoc n r, Str.append_assoc]
theorem cells_short : (cells.all fun c => decide (c.2.length ≤ 4)) = true := by kernel_rfl!
theorem fold_len (c : Nat) : (foldCh c).length ≤ 4 := by
  unfold foldCh
  cases h : b3find c with
  | some x =>
    unfold b3find at h
    obtain ⟨y, hy, rfl⟩ := Option.map_eq_some_iff.mp h
    exact of_decide_eq_true (List.all_eq_true.mp cells_short y (List.mem_of_find?_eq_some hy))
  | none =>
    show (Unicode.lowerAt #[c] 0).toArray.size ≤ 4
    rw [List.size_toArray]
    unfold Unicode.lowerAt
    simp only [List.getElem?_toArray, List.getElem?_cons_zero]
    split
    · simp
    · have := PySem.StrLaws.lowerOf_le3 c; omega
theorem prep_len : ∀ pre : List Int, (prepInt pre).length ≤ 4 * pre.length
  | [] => Nat.le_refl _
  | c :: r => by
    show (_ ++ prepInt r).length ≤ 4 * (r.length + 1)
    rw [Str.length_append]
    have h1 := prep_len r
    have h2 := fold_len c.toNat
    have h3 : (if inB1 c.toNat = true then Str.ofString "" else foldCh c.toNat).length ≤ 4 := by
      split
      · exact Nat.zero_le _
      · exact h2
    omega
set_option pp.deepTerms.threshold 6
theorem spec_prep (w : World) (mean mg mb) (x : Str) (t : Tok) (news) (hx : x.length ≤ 1000) : Spec w mean mg mb 4 161 [.str x t] news (fun tl r => (∃ tk, r = .str (prepInt (KStt.codes x)) tk) ∧ tl = []) := by
  unfold Spec
  intro dp un gd cn cs a ccd cl outer A₀ base h₀ L m s Q E B F X N T hk hd hu hret
  simp only [recursionLimit] at hd
  have hcl := cLine_is
  refine wpAny_call ?_
  k_dflt cell_enter
  k_steps
  · unfold Stop
    rename Fr _ _ _ _ => F1
    rename News _ _ _ _ => N1
    with_unfolding_all refine For_invVF F1 (by exact rfl) (by exact rfl) ?_
    refine ld F1 rfl ?_
    refine' KStt.kst_text (σ := Str × Tok) (fun _ => news) (fun c => [(Str.ofString "kept", .str c.1 c.2)]) (fun _ => True) [Str.ofString "told"] (fun pre c => c.1 = prepInt pre) (Str.ofString "", ?tk) rfl F1 N1 trivial ?hk ?hp ?turn ?done
    case hk => intro p hp; rw [List.mem_singleton.mp hp]; exact rfl
    case hp => exact rfl
    case turn =>
      intro c pre post n t1 u h1 tk1 own hcodes hoff hfact hP F2 N2
      k_steps
      refine spec_use (spec_b1 w mean mg mb _ _ _) (by assumption) F2 (by assumption) N2 (by assumption) rfl (show dp + 1 + 2 < recursionLimit by simp only [recursionLimit]; omega) (show un + 3 + 8 * 2 < cLine by omega) ?_
      intro r' tl' h2 tk2 F3 N3 R'
      obtain ⟨hr1, hr2⟩ := R'
      subst hr1 hr2
      cases hb : decide ((n : Int) ∈ setCodes) with
      | true =>
        k_steps
        refine' InvEndN.intro (nx := news) (by assumption) (by assumption) ⟨c, rfl, trivial, ?hk, ?hm, ?hp⟩ rfl (fun p hp => List.mem_append_left _ hp) (fun p hp => List.mem_append_right _ hp)
        case hk => intro p hp; rw [List.mem_singleton.mp hp]; dsimp only; rw [if_neg (by decide), if_neg (by decide)]; exact rfl
        case hm =>
          intro z z1 z2 z3
          have z4 : z ≠ Str.ofString "kept" := z2 _ (List.mem_singleton.mpr rfl)
          have z5 : z ≠ Str.ofString "told" := by rintro rfl; exact absurd z3 (by decide)
          simp only [kstB, if_neg z1, if_neg z4, if_neg z5, z3]
          try rfl
        case hp =>
          show c.1 = prepInt (pre ++ [(n : Int)])
          rw [prep_snoc, show ((n : Int)).toNat = n from rfl]
          unfold inB1
          rw [hb, hP]
          (show _ = _ ++ Str.ofString ""; rw [show Str.ofString "" = Str.empty from by decide +kernel, Str.append_empty])
      | false =>
        k_steps
        rename Fr _ _ _ _ => F4
        rename News _ _ _ _ => N4
        refine spec_use (spec_b3 w mean mg mb _ _ _) (by assumption) F4 (by assumption) N4 (by assumption) rfl (show dp + 1 + 2 < recursionLimit by simp only [recursionLimit]; omega) (show un + 3 + 8 * 2 < cLine by omega) ?_
        intro r' tl' h2 tk2 F5 N5 R'
        obtain ⟨_, hr1, hr2⟩ := R'
        subst hr1 hr2
        have hl1 : c.1.length ≤ 4 * pre.length := by rw [hP]; exact prep_len pre
        have hl2 : pre.length ≤ x.length := by rw [← KStt.codes_length, hcodes, List.length_append]; omega
        have hl3 := fold_len n
        k_steps
        (show wpAny _ _ (binaryOp Operator.Add (Value.str c.1 c.2) (Value.str (foldCh n) _)) _ _ _)
        refine KOpn.add (show c.1.length + (foldCh n).length ≤ 16777216 by omega) ?_
        intro t9 k9 e9
        k_steps
        refine' InvEndN.intro (nx := news) (by assumption) (by assumption) ⟨(c.1 ++ foldCh n, t9), rfl, trivial, ?hk, ?hm, ?hp⟩ rfl (fun p hp => List.mem_append_left _ hp) (fun p hp => List.mem_append_right _ hp)
        case hk => intro p hp; rw [List.mem_singleton.mp hp]; dsimp only; rw [if_pos rfl]
        case hm =>
          intro z z1 z2 z3
          have z4 : z ≠ Str.ofString "kept" := z2 _ (List.mem_singleton.mpr rfl)
          have z5 : z ≠ Str.ofString "told" := by rintro rfl; exact absurd z3 (by decide)
          simp only [kstB, if_neg z1, if_neg z4, if_neg z5, z3]
          try rfl
        case hp =>
          show c.1 ++ foldCh n = prepInt (pre ++ [(n : Int)])
          rw [prep_snoc, show ((n : Int)).toNat = n from rfl]
          unfold inB1
          rw [hb, hP]
          rfl
    case done =>
      intro c u h1 tk1 hfact hP F2 N2
      dsimp only
      k_steps
      exact hret _ [] _ _ (by assumption) (subNews (by assumption) (fun p hp => hp)) ⟨⟨_, by rw [hP]⟩, rfl⟩
end Mine
end
section
set_option maxRecDepth 100000
set_option maxHeartbeats 8000000
set_option linter.unusedVariables false
namespace Mine
open PySem

theorem runFor_add : ∀ (a b : Nat) (m : Sre.M), m.runFor (a + b) = (m.runFor a).runFor b
  | 0, b, m => by rw [Nat.zero_add]; rfl
  | a + 1, b, m => by
    rw [Nat.succ_add]
    show (if m.outcome.isSome then m else (m.step).runFor (a + b)) = (if m.outcome.isSome then m else (m.step).runFor a).runFor b
    split
    · rename_i h
      cases b with
      | zero => rfl
      | succ b => show m = if m.outcome.isSome then m else _; rw [if_pos h]
    · exact runFor_add a b _
theorem runFor_done (m : Sre.M) (h : m.outcome.isSome = true) : ∀ k, m.runFor k = m
  | 0 => rfl
  | k + 1 => by show (if m.outcome.isSome then m else _) = m; rw [if_pos h]
theorem runFor_one (m : Sre.M) (h : m.outcome = none) (k : Nat) : m.runFor (k + 1) = (m.step).runFor k := by
  show (if m.outcome.isSome then m else _) = _
  rw [h]; rfl
noncomputable def code1 : Array Nat := #[14,4,0,1,1,6,1,16,46,1]
noncomputable def code2 : Array Nat := #[14,9,4,1,2,16,10,16,13,0,7,7,16,13,16,10,15,18,5,16,10,15,13,11,16,13,5,5,0,16,10,1,15,2,0,1]
/-- a search under way: no loops, no groups -/
noncomputable def mkM (code text : Array Nat) (start : Nat) (must : Bool) (pc pos handed : Nat) (outer : Bool) (frames : List Sre.Frame) (weight : Nat) (answer : Option Bool) (seen : Sre.Seen) (out : Option Sre.Outcome) : Sre.M :=
  { code, text, lim := text.size, start, lastStart := text.size, mustAdvance := must, pc, pos, handed, outermost := outer, marks := #[], frames, weight, answer, seen, outcome := out }
noncomputable def fr1 (s : Nat) (o : Bool) : Sre.Frame := { wait := .nextStart, pc := 5, pos := s, outermost := o }
theorem s1_at_no (text : Array Nat) (s h : Nat) (must o : Bool) (fs : List Sre.Frame) (wt : Nat) (sn : Sre.Seen) (hn : ¬ (s = 0 ∨ text.getD (s - 1) 0 = 10)) :
    ∃ sn', (mkM code1 text s must 5 s h o fs wt none sn none).step = mkM code1 text s must 5 s h o fs wt (some false) sn' none := by
  have e : (s == 0 || text.getD (s - 1) 0 == 10) = false := by
    rw [Bool.or_eq_false_iff, beq_eq_false_iff_ne, beq_eq_false_iff_ne]
    exact ⟨fun x => hn (.inl x), fun x => hn (.inr x)⟩
  refine ⟨(sn.add 6).add 44, ?_⟩
  show (if (s == 0 || text.getD (s - 1) 0 == 10) = true then _ else _) = _
  rw [e]
  rfl
theorem s1_at_yes (text : Array Nat) (s h : Nat) (must o : Bool) (fs : List Sre.Frame) (wt : Nat) (sn : Sre.Seen) (hn : s = 0 ∨ text.getD (s - 1) 0 = 10) :
    ∃ sn', (mkM code1 text s must 5 s h o fs wt none sn none).step = mkM code1 text s must 7 s h o fs wt none sn' none := by
  have e : (s == 0 || text.getD (s - 1) 0 == 10) = true := by
    rw [Bool.or_eq_true, beq_iff_eq, beq_iff_eq]
    exact hn
  refine ⟨(sn.add 6).add 44, ?_⟩
  show (if (s == 0 || text.getD (s - 1) 0 == 10) = true then _ else _) = _
  rw [e]
  rfl
theorem s1_lit_end (text : Array Nat) (s h : Nat) (o : Bool) (fs : List Sre.Frame) (wt : Nat) (sn : Sre.Seen) (hn : ¬ s < text.size) :
    ∃ sn', (mkM code1 text s false 7 s h o fs wt none sn none).step = mkM code1 text s false 7 s h o fs wt (some false) sn' none := by
  refine ⟨sn.add 16, ?_⟩
  show (if s ≥ text.size then _ else _) = _
  rw [if_pos (Nat.le_of_not_lt hn)]
  rfl
theorem s1_lit_no (text : Array Nat) (s h : Nat) (o : Bool) (fs : List Sre.Frame) (wt : Nat) (sn : Sre.Seen) (hs : s < text.size) (hn : ¬ text.getD s 0 = 46) :
    ∃ sn', (mkM code1 text s false 7 s h o fs wt none sn none).step = mkM code1 text s false 7 s h o fs wt (some false) sn' none := by
  have e : (text.getD s 0 == 46) = false := by rw [beq_eq_false_iff_ne]; exact hn
  refine ⟨sn.add 16, ?_⟩
  show (if s ≥ text.size then _ else (match (Except.ok (text.getD s 0 == 46, sn.add 16) : Except String (Bool × Sre.Seen)) with | .error why => _ | .ok (false, seen) => _ | .ok (true, seen) => _)) = _
  rw [if_neg (by omega), e]
  rfl
theorem s1_lit_yes (text : Array Nat) (s h : Nat) (o : Bool) (fs : List Sre.Frame) (wt : Nat) (sn : Sre.Seen) (hs : s < text.size) (hn : text.getD s 0 = 46) :
    ∃ sn', (mkM code1 text s false 7 s h o fs wt none sn none).step = mkM code1 text s false 9 (s + 1) h o fs wt none sn' none := by
  have e : (text.getD s 0 == 46) = true := by rw [beq_iff_eq]; exact hn
  refine ⟨sn.add 16, ?_⟩
  show (if s ≥ text.size then _ else (match (Except.ok (text.getD s 0 == 46, sn.add 16) : Except String (Bool × Sre.Seen)) with | .error why => _ | .ok (false, seen) => _ | .ok (true, seen) => _)) = _
  rw [if_neg (by omega), e]
  rfl
theorem s1_succ (text : Array Nat) (s p h : Nat) (o : Bool) (fs : List Sre.Frame) (wt : Nat) (sn : Sre.Seen) :
    (mkM code1 text s false 9 p h o fs wt none sn none).step = mkM code1 text s false 9 p p o fs wt (some true) (sn.add 1) none := by
  cases o <;> rfl
theorem s1_back_no (text : Array Nat) (s pc p h : Nat) (o o' : Bool) (sn : Sre.Seen) (hs : s < text.size) :
    (mkM code1 text s false pc p h o [fr1 s o'] 1 (some false) sn none).step = mkM code1 text (s + 1) false 5 (s + 1) (s + 1) false [fr1 (s + 1) false] 1 none sn none := by
  show (if s < text.size then _ else _) = _
  rw [if_pos hs]
  rfl
theorem s1_back_end (text : Array Nat) (s pc p h : Nat) (o o' : Bool) (sn : Sre.Seen) (hs : ¬ s < text.size) :
    (mkM code1 text s false pc p h o [fr1 s o'] 1 (some false) sn none).step = mkM code1 text s false 5 s h o' [] 0 (some false) sn none := by
  show (if s < text.size then _ else _) = _
  rw [if_neg hs]
  rfl
theorem s1_back_yes (text : Array Nat) (s pc p h : Nat) (o o' : Bool) (sn : Sre.Seen) :
    (mkM code1 text s false pc p h o [fr1 s o'] 1 (some true) sn none).step = mkM code1 text s false 5 s h o' [] 0 (some true) sn none := rfl
theorem s1_out (code text : Array Nat) (s pc p h : Nat) (o y : Bool) (sn : Sre.Seen) :
    (mkM code text s false pc p h o [] 0 (some y) sn none).step = mkM code text s false pc p h o [] 0 (some y) sn (some (if y then .matched else .failed)) := rfl
/-- where a dot stands first in a line -/
noncomputable def hit1 (text : Array Nat) (s : Nat) : Prop := s < text.size ∧ (s = 0 ∨ text.getD (s - 1) 0 = 10) ∧ text.getD s 0 = 46
/-- what a search has come to -/
noncomputable def Came (hit : Nat → Prop) (len : Nat → Nat) (text : Array Nat) (s : Nat) (m : Sre.M) : Prop :=
  (∃ i, s ≤ i ∧ i < text.size ∧ hit i ∧ (∀ j, s ≤ j → j < i → ¬ hit j) ∧ m.outcome = some .matched ∧ m.start = i ∧ m.handed = i + len i) ∨
  ((∀ j, s ≤ j → j < text.size → ¬ hit j) ∧ m.outcome = some .failed)
theorem came_outcome {hit len text s m} (h : Came hit len text s m) : m.outcome.isSome = true := by
  rcases h with ⟨i, _, _, _, _, h, _⟩ | ⟨_, h⟩ <;> rw [h] <;> rfl
theorem came_next {hit : Nat → Prop} {len text s m} (hn : ¬ hit s) (h : Came hit len text (s + 1) m) : Came hit len text s m := by
  have tell : ∀ j, s ≤ j → j = s ∨ s + 1 ≤ j := fun j _ => by omega
  rcases h with ⟨i, h1, h2, h3, h4, h5⟩ | ⟨h1, h2⟩
  · refine .inl ⟨i, by omega, h2, h3, fun j hj hi => ?_, h5⟩
    rcases tell j hj with rfl | hj
    · exact hn
    · exact h4 j hj hi
  · refine .inr ⟨fun j hj hi => ?_, h2⟩
    rcases tell j hj with rfl | hj
    · exact hn
    · exact h1 j hj hi
theorem search1 (text : Array Nat) : ∀ (fuel s : Nat) (o o' : Bool) (sn : Sre.Seen), text.size - s ≤ fuel → s ≤ text.size →
    ∃ k, k ≤ 3 * fuel + 6 ∧ Came (hit1 text) (fun _ => 1) text s ((mkM code1 text s false 5 s s o [fr1 s o'] 1 none sn none).runFor k) := by
  intro fuel
  induction fuel with
  | zero =>
    intro s o o' sn hf hs
    have e : ¬ s < text.size := by omega
    have fin : ∀ j, s ≤ j → j < text.size → ¬ hit1 text j := fun j h1 h2 => by omega
    by_cases ha : s = 0 ∨ text.getD (s - 1) 0 = 10
    · obtain ⟨a1, h1⟩ := s1_at_yes text s s false o [fr1 s o'] 1 sn ha
      obtain ⟨a2, h2⟩ := s1_lit_end text s s o [fr1 s o'] 1 a1 e
      refine ⟨4, by omega, ?_⟩
      rw [runFor_one _ rfl, h1, runFor_one _ rfl, h2, runFor_one _ rfl, s1_back_end text s 7 s s o o' a2 e, runFor_one _ rfl, s1_out]
      exact .inr ⟨fin, rfl⟩
    · obtain ⟨a1, h1⟩ := s1_at_no text s s false o [fr1 s o'] 1 sn ha
      refine ⟨3, by omega, ?_⟩
      rw [runFor_one _ rfl, h1, runFor_one _ rfl, s1_back_end text s 5 s s o o' a1 e, runFor_one _ rfl, s1_out]
      exact .inr ⟨fin, rfl⟩
  | succ fuel ih =>
    intro s o o' sn hf hs
    by_cases e : s < text.size
    · by_cases ha : s = 0 ∨ text.getD (s - 1) 0 = 10
      · obtain ⟨a1, h1⟩ := s1_at_yes text s s false o [fr1 s o'] 1 sn ha
        by_cases hc : text.getD s 0 = 46
        · obtain ⟨a2, h2⟩ := s1_lit_yes text s s o [fr1 s o'] 1 a1 e hc
          refine ⟨5, by omega, ?_⟩
          rw [runFor_one _ rfl, h1, runFor_one _ rfl, h2, runFor_one _ rfl, s1_succ, runFor_one _ rfl, s1_back_yes, runFor_one _ rfl, s1_out]
          exact .inl ⟨s, Nat.le_refl s, e, ⟨e, ha, hc⟩, fun j h1 h2 => by omega, rfl, rfl, rfl⟩
        · obtain ⟨a2, h2⟩ := s1_lit_no text s s o [fr1 s o'] 1 a1 e hc
          obtain ⟨k, hk, hC⟩ := ih (s + 1) false false a2 (by omega) (by omega)
          refine ⟨k + 1 + 1 + 1, by omega, ?_⟩
          rw [runFor_one _ rfl, h1, runFor_one _ rfl, h2, runFor_one _ rfl, s1_back_no text s 7 s s o o' a2 e]
          exact came_next (fun h => hc h.2.2) hC
      · obtain ⟨a1, h1⟩ := s1_at_no text s s false o [fr1 s o'] 1 sn ha
        obtain ⟨k, hk, hC⟩ := ih (s + 1) false false a1 (by omega) (by omega)
        refine ⟨k + 1 + 1, by omega, ?_⟩
        rw [runFor_one _ rfl, h1, runFor_one _ rfl, s1_back_no text s 5 s s o o' a1 e]
        exact came_next (fun h => ha h.2.1) hC
    · obtain ⟨k, hk, hC⟩ := ih s o o' sn (by omega) hs
      exact ⟨k, by omega, hC⟩
theorem find1 (text : Array Nat) (s : Nat) (hs : s ≤ text.size) :
    ∃ k, k ≤ 3 * text.size + 6 ∧ Came (hit1 text) (fun _ => 1) text s ((Sre.forSearch code1 text 0 s text.size false).runFor k) := by
  by_cases h : s < text.size
  · have e : Sre.forSearch code1 text 0 s text.size false = mkM code1 text s false 5 s s true [fr1 s true] 1 none (({} : Sre.Seen).add 14) none := by
      show (if (decide (s > text.size) || decide (text.size - s < 1)) = true then _ else _) = _
      rw [if_neg (by rw [Bool.or_eq_true, decide_eq_true_eq, decide_eq_true_eq]; omega)]
      rfl
    rw [e]
    obtain ⟨k, hk, hC⟩ := search1 text (text.size - s) s true true _ (Nat.le_refl _) hs
    exact ⟨k, by omega, hC⟩
  · have e : ((Sre.forSearch code1 text 0 s text.size false).runFor 1).outcome = some .failed := by
      show ((if (decide (s > text.size) || decide (text.size - s < 1)) = true then _ else _ : Sre.M).runFor 1).outcome = _
      rw [if_pos (by rw [Bool.or_eq_true, decide_eq_true_eq, decide_eq_true_eq]; omega)]
      rfl
    exact ⟨1, by omega, .inr ⟨fun j h1 h2 => by omega, e⟩⟩
/-- the places of code2's letters -/
noncomputable def Lit2 (pc c : Nat) : Prop := (pc = 12 ∧ c = 13) ∨ (pc = 14 ∧ c = 10) ∨ (pc = 19 ∧ c = 10) ∨ (pc = 24 ∧ c = 13) ∨ (pc = 29 ∧ c = 10)
theorem l2_no (text : Array Nat) (pc c : Nat) (hp : Lit2 pc c) (s p h : Nat) (o : Bool) (fs : List Sre.Frame) (wt : Nat) (sn : Sre.Seen) (hn : ¬ (p < text.size ∧ text.getD p 0 = c)) :
    ∃ sn', (mkM code2 text s false pc p h o fs wt none sn none).step = mkM code2 text s false pc p h o fs wt (some false) sn' none := by
  refine ⟨sn.add 16, ?_⟩
  rcases hp with ⟨rfl, hc⟩ | ⟨rfl, hc⟩ | ⟨rfl, hc⟩ | ⟨rfl, hc⟩ | ⟨rfl, hc⟩
  all_goals
    by_cases h1 : p < text.size
    · have e : (text.getD p 0 == c) = false := by rw [beq_eq_false_iff_ne]; exact fun h2 => hn ⟨h1, h2⟩
      subst hc
      first
        | (show (if p ≥ text.size then _ else (match (Except.ok (text.getD p 0 == 13, sn.add 16) : Except String (Bool × Sre.Seen)) with | .error why => _ | .ok (false, seen) => _ | .ok (true, seen) => _)) = _)
        | (show (if p ≥ text.size then _ else (match (Except.ok (text.getD p 0 == 10, sn.add 16) : Except String (Bool × Sre.Seen)) with | .error why => _ | .ok (false, seen) => _ | .ok (true, seen) => _)) = _)
      rw [if_neg (by omega), e]
      rfl
    · subst hc
      show (if p ≥ text.size then _ else _) = _
      rw [if_pos (by omega)]
      rfl
theorem l2_yes (text : Array Nat) (pc c : Nat) (hp : Lit2 pc c) (s p h : Nat) (o : Bool) (fs : List Sre.Frame) (wt : Nat) (sn : Sre.Seen) (h1 : p < text.size) (h2 : text.getD p 0 = c) :
    ∃ sn', (mkM code2 text s false pc p h o fs wt none sn none).step = mkM code2 text s false (pc + 2) (p + 1) h o fs wt none sn' none := by
  refine ⟨sn.add 16, ?_⟩
  rcases hp with ⟨rfl, hc⟩ | ⟨rfl, hc⟩ | ⟨rfl, hc⟩ | ⟨rfl, hc⟩ | ⟨rfl, hc⟩
  all_goals
    have e : (text.getD p 0 == c) = true := by rw [beq_iff_eq]; exact h2
    subst hc
    first
        | (show (if p ≥ text.size then _ else (match (Except.ok (text.getD p 0 == 13, sn.add 16) : Except String (Bool × Sre.Seen)) with | .error why => _ | .ok (false, seen) => _ | .ok (true, seen) => _)) = _)
        | (show (if p ≥ text.size then _ else (match (Except.ok (text.getD p 0 == 10, sn.add 16) : Except String (Bool × Sre.Seen)) with | .error why => _ | .ok (false, seen) => _ | .ok (true, seen) => _)) = _)
    rw [if_neg (by omega), e]
    rfl
noncomputable def fr2 (s : Nat) (o : Bool) : Sre.Frame := { wait := .nextStart, pc := 10, pos := s, outermost := o }
noncomputable def fNb (pc s : Nat) (o : Bool) : Sre.Frame := { wait := .nextBranch, pc, pos := s, outermost := o }
noncomputable def fLn (s : Nat) (o : Bool) : Sre.Frame := { wait := .lookNot, pc := 26, pos := s, outermost := o }
theorem s2_branch (text : Array Nat) (s : Nat) (o : Bool) (f : Sre.Frame) (h : Nat) (sn : Sre.Seen) :
    (mkM code2 text s false 10 s h o [f] 1 none sn none).step = mkM code2 text s false 12 s s o [fNb 11 s o, f] 2 none (sn.add 7) none := rfl
theorem s2_alt2 (text : Array Nat) (s pc p h : Nat) (o o' : Bool) (f : Sre.Frame) (sn : Sre.Seen) :
    (mkM code2 text s false pc p h o [fNb 11 s o', f] 2 (some false) sn none).step = mkM code2 text s false 19 s s o' [fNb 18 s o', f] 2 none sn none := rfl
theorem s2_alt3 (text : Array Nat) (s pc p h : Nat) (o o' : Bool) (f : Sre.Frame) (sn : Sre.Seen) :
    (mkM code2 text s false pc p h o [fNb 18 s o', f] 2 (some false) sn none).step = mkM code2 text s false 24 s s o' [fNb 23 s o', f] 2 none sn none := rfl
theorem s2_jump16 (text : Array Nat) (s p h : Nat) (o : Bool) (fs : List Sre.Frame) (wt : Nat) (sn : Sre.Seen) :
    (mkM code2 text s false 16 p h o fs wt none sn none).step = mkM code2 text s false 35 p h o fs wt none (sn.add 15) none := rfl
theorem s2_jump21 (text : Array Nat) (s p h : Nat) (o : Bool) (fs : List Sre.Frame) (wt : Nat) (sn : Sre.Seen) :
    (mkM code2 text s false 21 p h o fs wt none sn none).step = mkM code2 text s false 35 p h o fs wt none (sn.add 15) none := rfl
theorem s2_jump32 (text : Array Nat) (s p h : Nat) (o : Bool) (fs : List Sre.Frame) (wt : Nat) (sn : Sre.Seen) :
    (mkM code2 text s false 32 p h o fs wt none sn none).step = mkM code2 text s false 35 p h o fs wt none (sn.add 15) none := rfl
theorem s2_succ (text : Array Nat) (s p h : Nat) (o : Bool) (fs : List Sre.Frame) (wt : Nat) (sn : Sre.Seen) :
    (mkM code2 text s false 35 p h o fs wt none sn none).step = mkM code2 text s false 35 p p o fs wt (some true) (sn.add 1) none := by
  cases o <;> rfl
theorem s2_not (text : Array Nat) (s p h : Nat) (o : Bool) (f g : Sre.Frame) (sn : Sre.Seen) :
    (mkM code2 text s false 26 p h o [f, g] 2 none sn none).step = mkM code2 text s false 29 p p false [fLn p o, f, g] 3 none (sn.add 5) none := rfl
theorem s2_look (text : Array Nat) (s pc p q h : Nat) (o o' : Bool) (f g : Sre.Frame) (sn : Sre.Seen) :
    (mkM code2 text s false pc p h o [fLn q o', f, g] 3 (some false) sn none).step = mkM code2 text s false 32 q h o' [f, g] 2 none sn none := rfl
theorem s2_nb (text : Array Nat) (s pc p q h k : Nat) (o o' : Bool) (f : Sre.Frame) (sn : Sre.Seen) :
    (mkM code2 text s false pc p h o [fNb k q o', f] 2 (some true) sn none).step = mkM code2 text s false k q h o' [f] 1 (some true) sn none := rfl
theorem s2_back (text : Array Nat) (s pc p h : Nat) (o o' : Bool) (sn : Sre.Seen) :
    (mkM code2 text s false pc p h o [fr2 s o'] 1 (some true) sn none).step = mkM code2 text s false 10 s h o' [] 0 (some true) sn none := rfl
noncomputable def hit2 (text : Array Nat) (s : Nat) : Prop := s < text.size ∧ (text.getD s 0 = 10 ∨ text.getD s 0 = 13)
noncomputable def len2 (text : Array Nat) (s : Nat) : Nat := if text.getD s 0 = 13 ∧ s + 1 < text.size ∧ text.getD (s + 1) 0 = 10 then 2 else 1
theorem search2 (text : Array Nat) (s : Nat) (o o' : Bool) (sn : Sre.Seen) (hh : hit2 text s) :
    ∃ k, k ≤ 20 ∧ Came (hit2 text) (len2 text) text s ((mkM code2 text s false 10 s s o [fr2 s o'] 1 none sn none).runFor k) := by
  obtain ⟨hs, hc⟩ := hh
  by_cases h13 : text.getD s 0 = 13
  · obtain ⟨a1, h1⟩ := l2_yes text 12 13 (by unfold Lit2; omega) s s s o [fNb 11 s o, fr2 s o'] 2 (sn.add 7) hs h13
    by_cases h10 : s + 1 < text.size ∧ text.getD (s + 1) 0 = 10
    · obtain ⟨a2, h2⟩ := l2_yes text 14 10 (by unfold Lit2; omega) s (s + 1) s o [fNb 11 s o, fr2 s o'] 2 a1 h10.1 h10.2
      refine ⟨8, by omega, ?_⟩
      rw [runFor_one _ rfl, s2_branch, runFor_one _ rfl, h1, runFor_one _ rfl, h2, runFor_one _ rfl, s2_jump16, runFor_one _ rfl, s2_succ, runFor_one _ rfl, s2_nb, runFor_one _ rfl, s2_back, runFor_one _ rfl, s1_out]
      have el : len2 text s = 2 := by unfold len2; rw [if_pos ⟨h13, h10.1, h10.2⟩]
      exact .inl ⟨s, Nat.le_refl s, hs, ⟨hs, hc⟩, fun j h1 h2 => by omega, rfl, rfl, by rw [el]; rfl⟩
    · obtain ⟨a2, h2⟩ := l2_no text 14 10 (by unfold Lit2; omega) s (s + 1) s o [fNb 11 s o, fr2 s o'] 2 a1 h10
      obtain ⟨a3, h3⟩ := l2_no text 19 10 (by unfold Lit2; omega) s s s o [fNb 18 s o, fr2 s o'] 2 a2 (fun h => by omega)
      obtain ⟨a4, h4⟩ := l2_yes text 24 13 (by unfold Lit2; omega) s s s o [fNb 23 s o, fr2 s o'] 2 a3 hs h13
      obtain ⟨a5, h5⟩ := l2_no text 29 10 (by unfold Lit2; omega) s (s + 1) (s + 1) false [fLn (s + 1) o, fNb 23 s o, fr2 s o'] 3 (a4.add 5) h10
      refine ⟨16, by omega, ?_⟩
      rw [runFor_one _ rfl, s2_branch, runFor_one _ rfl, h1, runFor_one _ rfl, h2, runFor_one _ rfl, s2_alt2, runFor_one _ rfl, h3, runFor_one _ rfl, s2_alt3, runFor_one _ rfl, h4, runFor_one _ rfl, s2_not, runFor_one _ rfl, h5, runFor_one _ rfl, s2_look, runFor_one _ rfl, s2_jump32, runFor_one _ rfl, s2_succ, runFor_one _ rfl, s2_nb, runFor_one _ rfl, s2_back, runFor_one _ rfl, s1_out]
      have el : len2 text s = 1 := by unfold len2; rw [if_neg (fun h => h10 h.2)]
      exact .inl ⟨s, Nat.le_refl s, hs, ⟨hs, hc⟩, fun j h1 h2 => by omega, rfl, rfl, by rw [el]; rfl⟩
  · have hc10 : text.getD s 0 = 10 := by omega
    obtain ⟨a1, h1⟩ := l2_no text 12 13 (by unfold Lit2; omega) s s s o [fNb 11 s o, fr2 s o'] 2 (sn.add 7) (fun h => h13 h.2)
    obtain ⟨a2, h2⟩ := l2_yes text 19 10 (by unfold Lit2; omega) s s s o [fNb 18 s o, fr2 s o'] 2 a1 hs hc10
    refine ⟨9, by omega, ?_⟩
    rw [runFor_one _ rfl, s2_branch, runFor_one _ rfl, h1, runFor_one _ rfl, s2_alt2, runFor_one _ rfl, h2, runFor_one _ rfl, s2_jump21, runFor_one _ rfl, s2_succ, runFor_one _ rfl, s2_nb, runFor_one _ rfl, s2_back, runFor_one _ rfl, s1_out]
    have el : len2 text s = 1 := by unfold len2; rw [if_neg (fun h => h13 h.1)]
    exact .inl ⟨s, Nat.le_refl s, hs, ⟨hs, hc⟩, fun j h1 h2 => by omega, rfl, rfl, by rw [el]; rfl⟩
theorem in2_yes (c : Nat) (sn : Sre.Seen) (h : c = 10 ∨ c = 13) : ∃ sn', Sre.inSet code2 c code2.size 5 true sn = .ok (true, sn') := by
  rcases h with rfl | rfl
  · exact ⟨_, rfl⟩
  · exact ⟨_, rfl⟩
theorem in2_no (c : Nat) (sn : Sre.Seen) (h : ¬ (c = 10 ∨ c = 13)) : ∃ sn', Sre.inSet code2 c code2.size 5 true sn = .ok (false, sn') := by
  have e1 : (c == 10) = false := by rw [beq_eq_false_iff_ne]; omega
  have e2 : (c == 13) = false := by rw [beq_eq_false_iff_ne]; omega
  refine ⟨((sn.add 16).add 16).add 0, ?_⟩
  show (if (c == 10) = true then Except.ok (true, sn.add 16) else if (c == 13) = true then Except.ok (true, (sn.add 16).add 16) else Except.ok (false, ((sn.add 16).add 16).add 0)) = (Except.ok (false, ((sn.add 16).add 16).add 0) : Except String (Bool × Sre.Seen))
  rw [e1, e2]
  rfl
theorem admitted2 (m : Sre.M) (text : Array Nat) (h1 : m.code = code2) (h2 : m.text = text) (h3 : m.lim = text.size) : ∀ (fuel s : Nat) (sn : Sre.Seen), text.size - s < fuel →
    (∃ i sn', s ≤ i ∧ hit2 text i ∧ (∀ j, s ≤ j → j < i → ¬ hit2 text j) ∧ m.admitted fuel s sn = .ok (some i, sn')) ∨ (∃ sn', (∀ j, s ≤ j → j < text.size → ¬ hit2 text j) ∧ m.admitted fuel s sn = .ok (none, sn')) := by
  intro fuel
  induction fuel with
  | zero => intro s sn h; omega
  | succ fuel ih =>
    intro s sn h
    unfold Sre.M.admitted
    rw [h1, h2, h3]
    by_cases hs : s ≥ text.size
    · rw [if_pos hs]
      exact .inr ⟨sn, fun j a b => by omega, rfl⟩
    · rw [if_neg hs]
      by_cases hc : text.getD s 0 = 10 ∨ text.getD s 0 = 13
      · obtain ⟨sn', e⟩ := in2_yes _ sn hc
        rw [e]
        exact .inl ⟨s, sn', Nat.le_refl s, ⟨by omega, hc⟩, fun j a b => by omega, rfl⟩
      · obtain ⟨sn', e⟩ := in2_no _ sn hc
        rw [e]
        have tell : ∀ j, s ≤ j → j = s ∨ s + 1 ≤ j := fun j _ => by omega
        have hn : ¬ hit2 text s := fun h => hc h.2
        rcases ih (s + 1) sn' (by omega) with ⟨i, sn2, a, b, c, d⟩ | ⟨sn2, a, b⟩
        · refine .inl ⟨i, sn2, by omega, b, fun j hj hi => ?_, d⟩
          rcases tell j hj with rfl | hj
          · exact hn
          · exact c j hj hi
        · refine .inr ⟨sn2, fun j hj hi => ?_, b⟩
          rcases tell j hj with rfl | hj
          · exact hn
          · exact a j hj hi
theorem find2 (text : Array Nat) (s : Nat) (hs : s ≤ text.size) :
    ∃ k, k ≤ 20 ∧ Came (hit2 text) (len2 text) text s ((Sre.forSearch code2 text 0 s text.size false).runFor k) := by
  by_cases h : s < text.size
  · obtain ⟨m, e1, e2, e3, e4, e5⟩ : ∃ m : Sre.M, Sre.forSearch code2 text 0 s text.size false = m.attemptFrom s true ∧ m.code = code2 ∧ m.text = text ∧ m.lim = text.size ∧
        ∃ sn, m = mkM code2 text s false 10 s s true [] 0 none sn none := by
      refine ⟨mkM code2 text s false 10 s s true [] 0 none (({} : Sre.Seen).add 14) none, ?_, rfl, rfl, rfl, _, rfl⟩
      show (if (decide (s > text.size) || decide (text.size - s < 1)) = true then _ else _) = _
      rw [if_neg (by rw [Bool.or_eq_true, decide_eq_true_eq, decide_eq_true_eq]; omega)]
      rfl
    obtain ⟨sn, rfl⟩ := e5
    rw [e1]
    have e6 : (mkM code2 text s false 10 s s true [] 0 none sn none).attemptFrom s true =
      match (mkM code2 text s false 10 s s true [] 0 none sn none).admitted (text.size + 1 - s) s sn with
      | .ok (some i, sn') => mkM code2 text i false 10 i i true [fr2 i true] 1 none sn' none
      | .ok (none, sn') => mkM code2 text s false 10 s s true [] 0 (some false) sn' none
      | .error why => (mkM code2 text s false 10 s s true [] 0 none sn none).stick why := rfl
    rw [e6]
    rcases admitted2 _ text e2 e3 e4 (text.size + 1 - s) s sn (by omega) with ⟨i, sn', a, b, c, d⟩ | ⟨sn', a, b⟩
    · rw [d]
      obtain ⟨k, hk, hC⟩ := search2 text i true true sn' b
      refine ⟨k, hk, ?_⟩
      rcases hC with ⟨i', f1, f2, f3, f4, f5⟩ | ⟨f1, f2⟩
      · refine .inl ⟨i', by omega, f2, f3, fun j hj hi => ?_, f5⟩
        by_cases hji : j < i
        · exact c j hj hji
        · exact f4 j (by omega) hi
      · exact absurd b (f1 i (Nat.le_refl i) b.1)
    · rw [b]
      exact ⟨1, by omega, .inr ⟨a, rfl⟩⟩
  · have e : ((Sre.forSearch code2 text 0 s text.size false).runFor 1).outcome = some .failed := by
      show ((if (decide (s > text.size) || decide (text.size - s < 1)) = true then _ else _ : Sre.M).runFor 1).outcome = _
      rw [if_pos (by rw [Bool.or_eq_true, decide_eq_true_eq, decide_eq_true_eq]; omega)]
      rfl
    exact ⟨1, by omega, .inr ⟨fun j h1 h2 => by omega, e⟩⟩
end Mine
end
section
set_option maxRecDepth 100000
set_option maxHeartbeats 8000000
set_option linter.unusedVariables false
namespace Mine
open PySem PySem.W PySem.Calls PyProof.Rows
open PySem.Builtin.Re
section
variable {M : Model} {A : Around} {E : Value → Shared → Prop} {s : Shared}
theorem drive_w {Q : Sre.M → Shared → Prop} : ∀ (n : Nat) (m : Sre.M) (k : Nat), k ≤ 4 * n → 0 < n → (m.runFor k).outcome.isSome = true → Q (m.runFor k) s → wpAny M A (reDrive n m) Q E s
  | 0, m, k, h, h0, _, _ => absurd h0 (Nat.lt_irrefl 0)
  | n + 1, m, k, h, _, ho, hq => by
    unfold reDrive
    dsimp only [reTurnSteps]
    by_cases h4 : (m.runFor 4).outcome.isSome = true
    · rw [if_pos h4]
      have e : m.runFor k = m.runFor 4 := by
        by_cases hk : k ≤ 4
        · have h1 : 4 = k + (4 - k) := by omega
          rw [h1, runFor_add, runFor_done _ ho]
        · have h1 : k = 4 + (k - 4) := by omega
          rw [h1, runFor_add, runFor_done _ h4]
      rw [← e]
      exact wpAny_pure hq
    · rw [if_neg h4]
      have hk : 4 < k := by
        apply Nat.lt_of_not_le
        intro hk
        have h1 : 4 = k + (4 - k) := by omega
        apply h4
        rw [h1, runFor_add, runFor_done _ ho]; exact ho
      have h1 : k = 4 + (k - 4) := by omega
      rw [h1, runFor_add] at ho hq
      refine wpAny_bind (wpAny_rule ?_)
      exact drive_w n (m.runFor 4) (k - 4) (by omega) (by omega) ho hq
theorem for_w {α : Type} {Q : PUnit → Shared → Prop} (f : α → PUnit → Sem (ForInStep PUnit)) (hf : ∀ i r (Q' : ForInStep PUnit → Shared → Prop), Q' (.yield ⟨⟩) s → wpAny M A (f i r) Q' E s) (hq : Q ⟨⟩ s) : ∀ l : List α, wpAny M A (forIn l ⟨⟩ f) Q E s
  | [] => by rw [List.forIn_nil]; exact wpAny_pure hq
  | a :: l => by
    rw [List.forIn_cons]
    refine wpAny_bind (hf a ⟨⟩ _ ?_)
    exact for_w f hf hq l
theorem run_w {Q : Option Sre.M → Shared → Prop} {m : Sre.M} {k : Nat} (hk : k ≤ 4 * 2 ^ 64) (ho : (m.runFor k).outcome.isSome = true)
    (h1 : (m.runFor k).outcome = some .matched → Q (some (m.runFor k)) s) (h2 : (m.runFor k).outcome = some .failed → Q none s) (h3 : ∀ y, (m.runFor k).outcome ≠ some (.stuck y)) : wpAny M A (reRunToEnd m) Q E s := by
  unfold reRunToEnd
  refine wpAny_bind (drive_w _ m k hk (by decide) ho ?_)
  refine wpAny_bind (for_w _ (fun i r Q' h => ?_) ?_ _)
  · split
    · exact wpAny_bind (wpAny_rule (wpAny_pure h))
    · exact wpAny_pure h
  · cases hc : (m.runFor k).outcome with
    | none => rw [hc] at ho; cases ho
    | some o => cases o with
      | matched => exact wpAny_pure (h1 hc)
      | failed => exact wpAny_pure (h2 hc)
      | stuck y => exact absurd hc (h3 y)
end
end Mine
end
section
set_option maxRecDepth 100000
set_option maxHeartbeats 8000000
set_option linter.unusedVariables false
namespace Mine
open PySem PySem.W PySem.Calls PyProof.Rows
open PySem.Builtin.Re
theorem entry_sub_loop : entryFor table "re.Pattern.sub.loop" = some Builtin.«re.Pattern.sub.loop» := entryFor_of_tree (by kernel_rfl)
theorem quiet_sub_loop (args : Args) : (Code.builtin "re.Pattern.sub.loop" args).quiet = true := Code.quiet_builtin args (by decide +kernel)
theorem entry_sub : entryFor table "re.Pattern.sub" = some Builtin.«re.Pattern.sub» := entryFor_of_tree (by kernel_rfl)
/-- a pattern over texts, without groups -/
noncomputable def PatAt (h : Heap) (p : Addr) (code : Array Nat) : Prop :=
  ∃ po fs c co ws k, h.get? p = some po ∧ po.data = .fields fs ∧ fs.getD 2 .none = .int 0 0 ∧ fs.getD 6 .none = .int 0 0 ∧ fs.getD 5 .none = .ref c ∧ h.get? c = some co ∧ co.data = .seq ws k ∧ (ws.map reRawOf).map (·.toNat) = code
theorem PatAt.kept {h h' : Heap} {p code} (P : PatAt h p code) (hk : ∀ b o, h.get? b = some o → h'.get? b = some o) : PatAt h' p code := by
  obtain ⟨po, fs, c, co, ws, k, a, b, d, e, f, g, i⟩ := P
  exact ⟨po, fs, c, co, ws, k, hk _ _ a, b, d, e, f, hk _ _ g, i⟩
section
variable {prog : Program} {w : World} {A : Around} {E : Value → Shared → Prop} {s : Shared}
theorem target_w {p : Addr} {x : Str} {t : Tok} {code} {Q : ReTarget → Shared → Prop} (P : PatAt s.heap p code)
    (hq : Q { pattern := .ref p, string := .str x t, code, text := x.cps, kind := 0, groups := 0, pos := 0, lim := x.cps.size } s) : wpAny (model prog w) A (reWholeTarget (.ref p) (.str x t)) Q E s := by
  obtain ⟨po, fs, c, co, ws, k, a, b, d, e, f, g, i, j⟩ := P
  unfold reWholeTarget
  refine wpAny_bind (wpAny_fieldsOf a b ?_)
  show wpAny _ _ (if (reRawNat (fs.getD 6 .none) == 0 && (0 : Nat) == 1) = true then _ else _) _ _ _
  rw [e]
  show wpAny _ _ (reRawItems (fs.getD 5 .none) >>= fun ws => pure _) _ _ _
  rw [f]
  unfold reRawItems
  refine wpAny_bind (wpAny_bind (wpAny_seqItems g i (wpAny_pure (wpAny_pure ?_))))
  show Q { pattern := .ref p, string := .str x t, code := (ws.map reRawOf).map (·.toNat), text := x.cps, kind := 0, groups := reRawNat (fs.getD 2 .none), pos := 0, lim := x.cps.size } s
  rw [j, d]
  exact hq
theorem slice_w {text : Array Nat} {b e : Nat} {Q : Value → Shared → Prop} (hsz : text.size ≤ sizeLine) (h : ∀ u k, Q (.str ⟨text.extract b e⟩ u) { s with toks := k }) : wpAny (model prog w) A (reSlice text 0 b e) Q E s := by
  show wpAny _ _ (mkStr ⟨text.extract b e⟩) _ _ _
  refine wpAny_mkStr (h _ _) ?_
  show (text.extract b e).size ≤ sizeLine
  rw [Array.size_extract]; omega
end
/-- how a text is made anew from each place of it -/
structure Turns (text : Array Nat) (hit : Nat → Prop) (len : Nat → Nat) (rp : List Nat) (F : Nat → List Nat) : Prop where
  no : ∀ s, s < text.size → ¬ hit s → F s = text.getD s 0 :: F (s + 1)
  yes : ∀ s, hit s → F s = rp ++ F (s + len s)
  fin : F text.size = []
  lt : ∀ s, hit s → s + len s ≤ text.size ∧ 1 ≤ len s
theorem Turns.skip {text hit len rp F} (T : Turns text hit len rp F) : ∀ (d s : Nat), s + d ≤ text.size → (∀ j, s ≤ j → j < s + d → ¬ hit j) → F s = (text.extract s (s + d)).toList ++ F (s + d)
  | 0, s, h, hn => by
    rw [Nat.add_zero]
    simp
  | d + 1, s, h, hn => by
    rw [T.no s (by omega) (hn s (Nat.le_refl s) (by omega)), T.skip d (s + 1) (by omega) (fun j a b => hn j (by omega) (by omega))]
    have e1 : s + 1 + d = s + (d + 1) := by omega
    rw [e1]
    have e2 : (text.extract s (s + (d + 1))).toList = text.getD s 0 :: (text.extract (s + 1) (s + (d + 1))).toList := by
      apply List.ext_getElem?
      intro i
      cases i with
      | zero =>
        simp only [List.getElem?_cons_zero, Array.getElem?_toList, Array.getElem?_extract]
        rw [if_pos (by omega)]
        simp only [Nat.add_zero]
        rw [Array.getD_eq_getD_getElem?, Array.getElem?_eq_getElem (by omega)]; rfl
      | succ i =>
        simp only [List.getElem?_cons_succ, Array.getElem?_toList, Array.getElem?_extract]
        have e3 : s + (i + 1) = s + 1 + i := by omega
        rw [e3]
        by_cases hi : i < min (s + (d + 1)) text.size - (s + 1)
        · rw [if_pos hi, if_pos (by omega)]
        · rw [if_neg hi, if_neg (by omega)]
    rw [e2]
    rfl
end Mine
end
section
set_option maxRecDepth 100000
set_option maxHeartbeats 8000000
set_option linter.unusedVariables false
namespace Mine
open PySem PySem.W PySem.Calls PyProof.Rows
open PySem.Builtin.Re
theorem joinNil : ∀ ys : List Str, (Str.join ⟨#[]⟩ ys).cps.toList = (ys.map (·.cps.toList)).flatten
  | [] => rfl
  | [y] => by
    show y.cps.toList = _
    simp
  | y :: z :: r => by
    have ih := joinNil (z :: r)
    show (y.cps ++ #[] ++ (Str.join ⟨#[]⟩ (z :: r)).cps).toList = _
    rw [Array.toList_append, Array.append_empty, ih]
    rfl
theorem valNe (rp : Str) (u : Tok) : (Value.str rp u != Value.none) = true := rfl
theorem push_w {prog : Program} {w : World} {A : Around} {E : Value → Shared → Prop} {s : Shared} {l : Addr} {o : Obj} {xs : Array Value} {c : Nat} {v : Value} {Q : Unit → Shared → Prop} (h1 : Heap)
    (ho : s.heap.get? l = some { cls := .type "list", dict := none, data := .seq xs c, slots := #[] }) (hx : xs.size ≤ sizeLine) (hl : h1.get? l = none) (K : ∀ b o, h1.get? b = some o → s.heap.get? b = some o)
    (hq : ∀ h' c', h'.get? l = some { cls := .type "list", dict := none, data := .seq (xs.push v) c', slots := #[] } → (∀ b o, h1.get? b = some o → h'.get? b = some o) → Q () { s with heap := h' }) :
    wpAny (model prog w) A (updateSeq l (·.push v)) Q E s := by
  refine wpAny_updateSeq ho rfl (hq _ _ (Heap.get?_update_self _ ho rfl) fun b o e => ?_) hx
  rw [Heap.get?_update_other _ _ (fun h : l = b => by subst h; rw [hl] at e; cases e)]
  exact K b o e
section
variable {prog : Program} {w : World} {A : Around} {R : Result → Shared → Prop}
theorem sub_loop {x rp : Str} {t u : Tok} {hit : Nat → Prop} {len : Nat → Nat} {F : Nat → List Nat} {code : Array Nat} {p l : Addr} {h1 : Heap}
    (T : Turns x.cps hit len rp.cps.toList F)
    (hfind : ∀ st, st ≤ x.cps.size → ∃ k, k ≤ 4 * 2 ^ 64 ∧ Came hit len x.cps st ((Sre.forSearch code x.cps 0 st x.cps.size false).runFor k))
    (hx : x.cps.size ≤ 1000000) (hF : (F 0).length ≤ 16777216) (hl : h1.get? l = none) (P : PatAt h1 p code) :
    ∀ (fuel st : Nat) (s : Shared) (n : Int) (xs : Array Value) (c : Nat) (zs : List (Str × Tok)), x.cps.size - st < fuel → st ≤ x.cps.size →
    s.heap.get? l = some { cls := .type "list", dict := none, data := .seq xs c, slots := #[] } → xs.toList = strValues zs → (zs.map (·.1.cps.toList)).flatten ++ F st = F 0 → zs.length ≤ 2 * st →
    (∀ b o, h1.get? b = some o → s.heap.get? b = some o) →
    (∀ h' u' tk, (∀ b o, h1.get? b = some o → h'.get? b = some o) → R (.ok (.ret (.str ⟨(F 0).toArray⟩ u'))) { s with heap := h', toks := tk }) →
    codeAny (model prog w) A (.builtin "re.Pattern.sub.loop" ⟨[.ref p, .str x t, .str rp u, rawInt 0, rawInt 0, rawInt n, rawInt (st : Nat), rawInt (st : Nat), .bool false, .ref l, .bool false], []⟩) R s := by
  intro fuel
  induction fuel with
  | zero => intro st s n xs c zs hf; omega
  | succ fuel ih =>
    intro st s n xs c zs hf hst hL hxs hZ hzl K hR
    have hsl : (16777216 : Nat) = sizeLine := rfl
    have hxsz : xs.size = zs.length := by
      have e1 : xs.toList.length = xs.size := by simp
      rw [← e1, hxs]; simp [strValues]
    refine codeAny_builtin entry_sub_loop ?_
    unfold Builtin.«re.Pattern.sub.loop»
    dsimp only [rawInt]
    refine wpAny_bind (target_w (P.kept K) ?_)
    show wpAny _ _ (reLiteralCannotBeTurned (.str rp u) >>= fun _ => _) _ _ s
    refine wpAny_bind (wpAny_pure ?_)
    show wpAny _ _ (reRunToEnd (Sre.forSearch code x.cps 0 st x.cps.size false) >>= fun r => _) _ _ s
    obtain ⟨k, hk, hC⟩ := hfind st hst
    refine wpAny_bind (run_w hk (came_outcome hC) (fun hm => ?_) (fun hm => ?_) (fun y hm => ?_))
    · rcases hC with ⟨i, a1, a2, a3, a4, a5, a6, a7⟩ | ⟨_, a2⟩
      · obtain ⟨b1, b2⟩ := T.lt i a3
        have eF : F st = (x.cps.extract st i).toList ++ F i := by
          have := T.skip (i - st) st (by omega) (fun j c1 c2 => a4 j c1 (by omega))
          have e : st + (i - st) = i := by omega
          rw [e] at this; exact this
        have eF2 := T.yes i a3
        generalize ((Sre.forSearch code x.cps 0 st x.cps.size false).runFor k) = m at a5 a6 a7 hm
        have eb : (m.handed == m.start) = false := by rw [a6, a7, beq_eq_false_iff_ne]; omega
        have next : ∀ (h' : Heap) (tk : Nat) (xs' : Array Value) (c' : Nat) (zs' : List (Str × Tok)), h'.get? l = some { cls := .type "list", dict := none, data := .seq xs' c', slots := #[] } → xs'.toList = strValues zs' →
            (zs'.map (·.1.cps.toList)).flatten = (zs.map (·.1.cps.toList)).flatten ++ (x.cps.extract st i).toList ++ rp.cps.toList → zs'.length ≤ zs.length + 2 → (∀ b o, h1.get? b = some o → h'.get? b = some o) →
            codeAny (model prog w) A (.builtin "re.Pattern.sub.loop" ⟨[.ref p, .str x t, .str rp u, .int 0 0, .int 0 0, .int (n + 1) 0, .int (m.handed : Nat) 0, .int (m.handed : Nat) 0, .bool (m.handed == i), .ref l, .bool false], []⟩) R { s with heap := h', toks := tk } := by
          intro h' tk xs' c' zs' g1 g2 g3 g4 g5
          rw [← a6, eb, a7]
          refine ih (i + len i) { s with heap := h', toks := tk } (n + 1) xs' c' zs' (by omega) b1 g1 g2 ?_ (by omega) g5 hR
          rw [g3, ← hZ, eF, eF2]
          simp only [List.append_assoc]
        dsimp only
        rw [show ((st : Int)).toNat = st from rfl, a6]
        by_cases hlt : st < i
        · rw [if_pos hlt]
          refine wpAny_bind (slice_w (by omega) fun u2 k2 => ?_)
          refine wpAny_bind (push_w (o := default) h1 hL (by omega) hl K fun h' c' g1 g2 => ?_)
          show wpAny _ _ (updateSeq l (·.push (.str rp u)) >>= fun _ => again _) _ _ _
          refine wpAny_bind (push_w (o := default) h1 g1 (by rw [Array.size_push]; omega) hl g2 fun h'' c'' g3 g4 => ?_)
          refine wpAny_pure ⟨quiet_sub_loop _, ?_⟩
          refine next h'' _ _ _ (zs ++ [(⟨x.cps.extract st i⟩, u2), (rp, u)]) g3 ?_ ?_ ?_ g4
          · simp [hxs, strValues]
          · simp
          · simp
        · rw [if_neg hlt]
          have ei : i = st := by omega
          show wpAny _ _ (updateSeq l (·.push (.str rp u)) >>= fun _ => again _) _ _ _
          refine wpAny_bind (push_w (o := default) h1 hL (by omega) hl K fun h'' c'' g3 g4 => ?_)
          refine wpAny_pure ⟨quiet_sub_loop _, ?_⟩
          refine next h'' _ _ _ (zs ++ [(rp, u)]) g3 ?_ ?_ ?_ g4
          · simp [hxs, strValues]
          · rw [ei]; simp
          · simp
      · rw [a2] at hm; cases hm
    · rcases hC with ⟨i, a1, a2, a3, a4, a5, a6⟩ | ⟨a1, _⟩
      · rw [a5] at hm; cases hm
      · have eF : F st = (x.cps.extract st x.cps.size).toList := by
          have := T.skip (x.cps.size - st) st (by omega) (fun j c1 c2 => a1 j c1 (by omega))
          have e : st + (x.cps.size - st) = x.cps.size := by omega
          rw [e, T.fin, List.append_nil] at this; exact this
        have fin : ∀ (h' : Heap) (tk : Nat) (xs' : Array Value) (c' : Nat) (zs' : List (Str × Tok)), h'.get? l = some { cls := .type "list", dict := none, data := .seq xs' c', slots := #[] } → xs'.toList = strValues zs' →
            (zs'.map (·.1.cps.toList)).flatten = F 0 → (∀ b o, h1.get? b = some o → h'.get? b = some o) →
            wpAny (model prog w) (A.under (.builtin "re.Pattern.sub.loop" ⟨[.ref p, .str x t, .str rp u, .int 0 0, .int 0 0, .int n 0, .int (st : Nat) 0, .int (st : Nat) 0, .bool false, .ref l, .bool false], []⟩)) (do
                let joiner ← reSlice x.cps 0 0 0
                let text ← if ((← seqItems? (.ref l)).getD #[]).isEmpty then pure joiner else call (.builtin "str.join") [joiner, .ref l]
                ret text)
              (fun fin s' => match fin with | .done f => R (.ok f) s' | .again c' => c'.quiet = true ∧ codeAny (model prog w) A c' R s') (fun e s' => R (.error e) s') { s with heap := h', toks := tk } := by
          intro h' tk xs' c' zs' g1 g2 g3 g4
          refine wpAny_bind (slice_w (by omega) fun u2 k2 => ?_)
          refine wpAny_bind (wpAny_seqItems g1 rfl ?_)
          have e0 : x.cps.extract 0 0 = #[] := by simp
          rw [e0]
          dsimp only [Option.getD_some]
          cases zs' with
          | nil =>
            have e1 : xs' = #[] := by simpa [strValues] using g2
            subst e1
            have e2 : F 0 = [] := by rw [← g3]; rfl
            have := hR h' u2 k2 g4
            rw [e2] at this
            exact wpAny_bind (wpAny_pure (wpAny_pure this))
          | cons z zs' =>
            have e1 : xs'.isEmpty = false := by
              have : xs' = (strValues (z :: zs')).toArray := by rw [← g2]
              rw [this]; rfl
            rw [if_neg (by show ¬ xs'.isEmpty = true; rw [e1]; decide)]
            have hsum : (((z :: zs').map (·.1)).map (·.length)).sum = (F 0).length := by
              rw [← g3, List.length_flatten, List.map_map, List.map_map]
              congr 1
            refine wpAny_bind (SC.join (l := z :: zs') (texts := (z :: zs').map (·.1)) ⟨_, g1, rfl, c', by rw [← g2]⟩ rfl (joinOk_of ?_) fun t' k' => ?_)
            · rw [hsum]
              show (F 0).length + ((z :: zs').map (·.1)).length * 0 ≤ 16777216
              omega
            · refine wpAny_pure ?_
              have ej : Txt.join ⟨#[]⟩ ((z :: zs').map (·.1)) = ⟨(F 0).toArray⟩ := by
                unfold Txt.join
                rw [StrLaws.glued_eq_join]
                have := joinNil ((z :: zs').map (·.1))
                rw [List.map_map] at this
                have e3 : (Str.join ⟨#[]⟩ ((z :: zs').map (·.1))).cps.toList = F 0 := by rw [this]; exact g3
                rw [← e3]
              rw [ej]
              exact hR h' t' k' g4
        dsimp only
        rw [show ((st : Int)).toNat = st from rfl]
        by_cases hlt : st < x.cps.size
        · rw [if_pos hlt]
          refine wpAny_bind (slice_w (by omega) fun u2 k2 => ?_)
          refine wpAny_bind (push_w (o := default) h1 hL (by omega) hl K fun h' c' g1 g2 => ?_)
          refine fin h' _ _ _ (zs ++ [(⟨x.cps.extract st x.cps.size⟩, u2)]) g1 ?_ ?_ g2
          · simp [hxs, strValues]
          · rw [← hZ, eF]; simp
        · rw [if_neg hlt]
          refine fin s.heap _ _ _ zs hL hxs ?_ K
          have ei : st = x.cps.size := by omega
          rw [← hZ, ei, T.fin, List.append_nil]
    · rcases hC with ⟨i, a1, a2, a3, a4, a5, a6⟩ | ⟨a1, a5⟩ <;> rw [a5] at hm <;> cases hm
end
end Mine
end
section
set_option maxRecDepth 100000
set_option maxHeartbeats 8000000
set_option linter.unusedVariables false
namespace Mine
open PySem PySem.W PySem.Calls PyProof.Rows
open PySem.Builtin.Re
theorem plainAttrs_pat : PlainAttrs "re.Pattern" :=
  ⟨⟨"object.__getattribute__", by rw [typeLookup_type, builtinLookup_eq_fast]; kernel_rfl, by decide +kernel⟩, by rw [typeLookup_type, builtinLookup_eq_fast]; kernel_rfl⟩
theorem slot_pat_sub : Slot "re.Pattern" "sub" "re.Pattern.sub" :=
  .of (owner := "re.Pattern") (n := "sub") (by rw [typeLookup_type, builtinLookup_eq_fast]; kernel_rfl) (by decide +kernel) (by decide +kernel) (by decide +kernel)
    (by first | exact .inl (by decide +kernel) | exact .inr (by decide +kernel)) (by rw [isSubtype_type]; kernel_rfl)
theorem type_pat_sub : typeOf (.builtin "re.Pattern.sub") = pure (.type "method_descriptor") := by show builtinType _ = _; rw [builtinType_eq_fast]; kernel_rfl
theorem str_no_call : typeLookup (.type "str") (Str.ofString "__call__") = pure none := by rw [typeLookup_type, builtinLookup_eq_fast]; kernel_rfl
theorem owner_pat : Manifest.owners.lookup (String.ofList ['n', 'r', 'e', 't', 't', 'a', 'P', '.', 'e', 'r'].reverse) = some Manifest.sig_re_Pattern := by kernel_rfl
theorem args_pat_sub (a b c : Value) : argsOk "re.Pattern.sub" ⟨[a, b, c], []⟩ := by
  unfold argsOk; rw [signature?_of (id := "re.Pattern.sub") (n := ['b', 'u', 's']) (o := ['n', 'r', 'e', 't', 't', 'a', 'P', '.', 'e', 'r']) (by kernel_rfl) owner_pat]; kernel_rfl
theorem named3 (b c : Value) : reNamed "re.Pattern.sub" "sub" ["repl", "string", "count"] 2 [b, c] [] = pure [some b, some c, none] := rfl
section
variable {prog : Program} {w : World} {A : Around} {E : Value → Shared → Prop}
theorem method_sub {s : Shared} {p : Addr} {o : Obj} {pl : Sem Bool} {Q : Value × List Value → Shared → Prop} (ho : s.heap.get? p = some o) (hc : o.cls = .type "re.Pattern") (hd : o.dict = none)
    (h : Q (.builtin "re.Pattern.sub", [.ref p]) s) : wpAny (model prog w) A (getMethod (.ref p) (Str.ofString "sub") pl) Q E s :=
  getMethod_builtin ⟨o, ho, hc⟩ plainAttrs_pat slot_pat_sub type_pat_sub (fun a e => by cases e; exact ⟨o, ho, hd⟩) h
theorem call_sub {s : Shared} {x rp : Str} {t u : Tok} {hit : Nat → Prop} {len : Nat → Nat} {F : Nat → List Nat} {code : Array Nat} {p : Addr} {o : Obj} {Q : Value → Shared → Prop}
    (ho : s.heap.get? p = some o) (hc : o.cls = .type "re.Pattern") (P : PatAt s.heap p code)
    (T : Turns x.cps hit len rp.cps.toList F) (h92 : rp.cps.contains 92 = false)
    (hfind : ∀ st, st ≤ x.cps.size → ∃ k, k ≤ 4 * 2 ^ 64 ∧ Came hit len x.cps st ((Sre.forSearch code x.cps 0 st x.cps.size false).runFor k))
    (hx : x.cps.size ≤ 1000000) (hF : (F 0).length ≤ 16777216)
    (hq : ∀ h' u' tk, (∀ b o, s.heap.get? b = some o → h'.get? b = some o) → Q (.str ⟨(F 0).toArray⟩ u') { s with heap := h', toks := tk }) :
    wpAny (model prog w) A (call (.builtin "re.Pattern.sub") [.ref p, .str rp u, .str x t]) Q E s := by
  refine wpAny_call (codeAny_call_builtin slot_pat_sub.plain entry_sub (slot_pat_sub.check _ _ _ _ _ _ _ _ ⟨o, ho, hc⟩ (args_pat_sub _ _ _) ?_))
  unfold Builtin.«re.Pattern.sub» reSubstitute
  dsimp only
  rw [named3]
  refine wpAny_bind (wpAny_pure ?_)
  dsimp only
  refine wpAny_bind (wpAny_pure ?_)
  refine wpAny_bind (wpAny_specialOf (s := s) (typeIs_str s _ _) str_no_call ?_)
  show wpAny _ _ (pure (!rp.cps.contains 92) >>= fun literal => _) _ _ _
  refine wpAny_bind (wpAny_pure ?_)
  rw [h92]
  show wpAny _ _ (pure (Value.str rp u, (0 : Int)) >>= fun literal => _) _ _ _
  refine wpAny_bind (wpAny_pure ?_)
  refine wpAny_bind (wpAny_pure ?_)
  refine wpAny_bind (wpAny_holding (target_w P ?_))
  show wpAny _ _ (newList [] >>= fun l => again _) _ _ _
  refine wpAny_bind (wpAny_newList ?_)
  refine wpAny_pure ⟨quiet_sub_loop _, ?_⟩
  have hkeep : ∀ b o, s.heap.get? b = some o → (s.heap.push { cls := .type "list", data := .seq #[] }).get? b = some o := fun b o e => Heap.get?_push_of_some _ e
  have hnone : s.heap.get? s.heap.objs.size = none := by
    cases h : s.heap.get? s.heap.objs.size with
    | none => rfl
    | some o => exact absurd (Heap.lt_size h) (Nat.lt_irrefl _)
  refine sub_loop (h1 := s.heap) (hit := hit) (len := len) (F := F) (code := code) T hfind hx hF hnone P (x.cps.size + 1) 0 _ 0 #[] _ [] (by omega) (Nat.zero_le _) (Heap.get?_push_size _ rfl) rfl rfl (Nat.zero_le _) hkeep ?_
  intro h' u' tk hk
  exact hq h' u' tk hk
end
end Mine
end
section
set_option maxRecDepth 100000
set_option maxHeartbeats 8000000
set_option linter.unusedVariables false
namespace Mine
open PySem PySem.W PySem.Calls PyProof.Rows
/-- line ends made CR LF; cr: the sign ahead was a CR -/
noncomputable def crlf : Bool → List Nat → List Nat
  | _, [] => []
  | cr, c :: r => if c = 13 then 13 :: 10 :: crlf true r else if c = 10 then (if cr then crlf false r else 13 :: 10 :: crlf false r) else c :: crlf false r
/-- dots first in a line doubled; ls: a line starts here -/
noncomputable def dots : Bool → List Nat → List Nat
  | _, [] => []
  | ls, c :: r => if ls = true ∧ c = 46 then 46 :: 46 :: dots false r else c :: dots (decide (c = 10)) r
theorem drop_get (text : Array Nat) (s : Nat) (h : s < text.size) : text.toList.drop s = text.getD s 0 :: text.toList.drop (s + 1) := by
  rw [List.drop_eq_getElem_cons (by simpa using h), Array.getD_eq_getD_getElem?, Array.getElem?_eq_getElem h]
  rfl
theorem crlf_weak : ∀ l : List Nat, l.head? ≠ some 10 → crlf true l = crlf false l
  | [], _ => rfl
  | c :: r, h => by
    have hc : c ≠ 10 := fun e => h (by rw [e]; rfl)
    unfold crlf
    rw [if_neg hc]
    by_cases h13 : c = 13
    · rw [if_pos h13, if_pos h13]
    · rw [if_neg h13, if_neg h13, if_neg hc]
theorem turns2 (text : Array Nat) : Turns text (hit2 text) (len2 text) [13, 10] (fun s => crlf false (text.toList.drop s)) where
  no s hs hn := by
    show crlf false (text.toList.drop s) = _ :: crlf false (text.toList.drop (s + 1))
    rw [drop_get text s hs]
    have hc : ¬ (text.getD s 0 = 10 ∨ text.getD s 0 = 13) := fun h => hn ⟨hs, h⟩
    rw [crlf, if_neg (by omega), if_neg (by omega)]
  yes s hh := by
    show crlf false (text.toList.drop s) = [13, 10] ++ crlf false (text.toList.drop (s + len2 text s))
    obtain ⟨hs, hc⟩ := hh
    rw [drop_get text s hs, crlf]
    by_cases h13 : text.getD s 0 = 13
    · rw [if_pos h13]
      by_cases h10 : s + 1 < text.size ∧ text.getD (s + 1) 0 = 10
      · have el : len2 text s = 2 := by unfold len2; rw [if_pos ⟨h13, h10.1, h10.2⟩]
        rw [el, drop_get text (s + 1) h10.1, h10.2, crlf, if_neg (by decide), if_pos rfl, if_pos rfl]
        rfl
      · have el : len2 text s = 1 := by unfold len2; rw [if_neg (fun h => h10 h.2)]
        rw [el, crlf_weak]
        · rfl
        · by_cases h1 : s + 1 < text.size
          · rw [drop_get text (s + 1) h1]
            intro e
            exact h10 ⟨h1, Option.some.inj e⟩
          · rw [List.drop_eq_nil_of_le (by simp; omega)]
            intro e; cases e
    · have h10 : text.getD s 0 = 10 := by omega
      have el : len2 text s = 1 := by unfold len2; rw [if_neg (fun h => h13 h.1)]
      rw [if_neg h13, if_pos h10, if_neg (by decide), el]
      rfl
  fin := by
    show crlf false (text.toList.drop text.size) = []
    rw [List.drop_eq_nil_of_le (by simp)]
    rfl
  lt s hh := by
    unfold len2
    split
    · rename_i h; exact ⟨by omega, by omega⟩
    · have := hh.1; exact ⟨by omega, by omega⟩
theorem turns1 (text : Array Nat) : Turns text (hit1 text) (fun _ => 1) [46, 46] (fun s => dots (decide (s = 0 ∨ text.getD (s - 1) 0 = 10)) (text.toList.drop s)) where
  no s hs hn := by
    show dots _ (text.toList.drop s) = _ :: dots (decide (s + 1 = 0 ∨ text.getD (s + 1 - 1) 0 = 10)) (text.toList.drop (s + 1))
    rw [drop_get text s hs, dots, if_neg]
    · congr 2
      rw [show s + 1 - 1 = s from rfl]
      rw [decide_eq_decide]
      omega
    · rintro ⟨h1, h2⟩
      exact hn ⟨hs, of_decide_eq_true h1, h2⟩
  yes s hh := by
    show dots _ (text.toList.drop s) = [46, 46] ++ dots (decide (s + 1 = 0 ∨ text.getD (s + 1 - 1) 0 = 10)) (text.toList.drop (s + 1))
    rw [drop_get text s hh.1, dots, if_pos ⟨decide_eq_true hh.2.1, hh.2.2⟩]
    have : decide (s + 1 = 0 ∨ text.getD (s + 1 - 1) 0 = 10) = false := by
      rw [show s + 1 - 1 = s from rfl, hh.2.2]
      exact decide_eq_false (by omega)
    rw [this]
    rfl
  fin := by
    show dots _ (text.toList.drop text.size) = []
    rw [List.drop_eq_nil_of_le (by simp)]
    rfl
  lt s hh := ⟨hh.1, Nat.le_refl 1⟩
theorem crlf_len : ∀ (b : Bool) (l : List Nat), (crlf b l).length ≤ 2 * l.length
  | _, [] => Nat.le_refl _
  | b, c :: r => by
    have h1 := crlf_len true r
    have h2 := crlf_len false r
    unfold crlf
    split
    · simp only [List.length_cons]; omega
    · split
      · split
        · simp only [List.length_cons]; omega
        · simp only [List.length_cons]; omega
      · simp only [List.length_cons]; omega
theorem dots_len : ∀ (b : Bool) (l : List Nat), (dots b l).length ≤ 2 * l.length
  | _, [] => Nat.le_refl _
  | b, c :: r => by
    have h1 := dots_len false r
    have h2 := dots_len (decide (c = 10)) r
    unfold dots
    split <;> simp only [List.length_cons] <;> omega
end Mine
end
section
theorem Mine.fresh_WQuo : True := by w_top off; trivial
set_option maxRecDepth 100000
set_option maxHeartbeats 8000000
set_option linter.unusedVariables false
namespace Mine
open PySem PySem.W PySem.Calls PyProof.Rows
example : (fun P => KK P) = KK ∧ PySem.Challenge.rw_st0021_01 = PySem.Challenge.rw_st0021_01 := by k_fill; exact ⟨rfl, rfl⟩
set_option pp.deepTerms.threshold 6
theorem pat36 {w : World} {h : Heap} (X : (KK w.params).In h) : PatAt h 36 code1 := ⟨_, _, 35, _, _, _, X 36 _ rfl, rfl, rfl, rfl, rfl, X 35 _ rfl, rfl, by simp [code1, code2, Builtin.Re.reRawOf]⟩
theorem pat41 {w : World} {h : Heap} (X : (KK w.params).In h) : PatAt h 41 code2 := ⟨_, _, 40, _, _, _, X 41 _ rfl, rfl, rfl, rfl, rfl, X 40 _ rfl, rfl, by simp [code1, code2, Builtin.Re.reRawOf]⟩
noncomputable def quoted (l : List Nat) : List Nat := dots true (crlf false l)
theorem spec_quote (w : World) (mean mg mb) (x : Str) (t : Tok) (news) (hx : x.length ≤ 1000) : Spec w mean mg mb 3 48 [.str x t] news (fun tl r => (∃ tk, r = .str ⟨(quoted x.cps.toList).toArray⟩ tk) ∧ tl = []) := by
  unfold Spec
  intro dp un gd cn cs a ccd cl outer A₀ base h₀ L m s Q E B F X N T hk hd hu hret
  simp only [recursionLimit] at hd
  have hcl := cLine_is
  refine wpAny_call ?_
  k_dflt cell_enter
  k_steps
  rename Fr _ _ _ _ => F1
  rename Frag.In _ _ => X1
  refine method_sub (F1.keep 36 _ (X1 36 _ rfl)) rfl rfl ?_
  k_steps
  refine method_sub (F1.keep 41 _ (X1 41 _ rfl)) rfl rfl ?_
  k_steps
  rename News _ _ _ _ => N1
  refine call_sub (F1.keep 41 _ (X1 41 _ rfl)) rfl ((pat41 X1).kept F1.keep) (turns2 x.cps) (by decide +kernel) (fun st hst => ?_) (by have : x.cps.size ≤ 1000 := hx; omega) ?_ ?_
  · obtain ⟨k, hk, hC⟩ := find2 x.cps st hst
    exact ⟨k, by omega, hC⟩
  · have := crlf_len false (x.cps.toList.drop 0)
    have h2 : x.cps.toList.length = x.length := by simp [Str.length]
    simp only [List.drop_zero] at this ⊢
    omega
  intro h2 u2 k2 hk2
  have F2 := F1.kept hk2
  have N2 : News _ _ h2 _ := fun p hp => ⟨hk2 _ _ (N1 p hp).1, (N1 p hp).2⟩
  simp only [List.drop_zero]
  clear F1 N1
  k_steps
  have hl : (crlf false x.cps.toList).length ≤ 2000 := by
    have := crlf_len false x.cps.toList
    have h2 : x.cps.toList.length = x.length := by simp [Str.length]
    omega
  refine call_sub (F2.keep 36 _ (X1 36 _ rfl)) rfl ((pat36 X1).kept F2.keep) (turns1 _) (by decide +kernel) (fun st hst => ?_) (by show (crlf false x.cps.toList).toArray.size ≤ 1000000; rw [List.size_toArray]; omega) ?_ ?_
  · obtain ⟨k, hk, hC⟩ := find1 _ st hst
    refine ⟨k, ?_, hC⟩
    have : (crlf false x.cps.toList).toArray.size = (crlf false x.cps.toList).length := by rw [List.size_toArray]
    have h3 : k ≤ 3 * (crlf false x.cps.toList).toArray.size + 6 := hk
    omega
  · have := dots_len (decide (0 = 0 ∨ (crlf false x.cps.toList).toArray.getD (0 - 1) 0 = 10)) ((crlf false x.cps.toList).toArray.toList.drop 0)
    have h3 : ((crlf false x.cps.toList).toArray.toList.drop 0).length = (crlf false x.cps.toList).length := by simp
    show (dots (decide (0 = 0 ∨ (crlf false x.cps.toList).toArray.getD (0 - 1) 0 = 10)) ((crlf false x.cps.toList).toArray.toList.drop 0)).length ≤ _
    omega
  intro h3 u3 k3 hk3
  have F3 := F2.kept hk3
  have N3 : News _ _ h3 _ := fun p hp => ⟨hk3 _ _ (N2 p hp).1, (N2 p hp).2⟩
  have e3 : decide (0 = 0 ∨ (crlf false x.cps.toList).toArray.getD (0 - 1) 0 = 10) = true := decide_eq_true (.inl rfl)
  simp only [List.drop_zero]
  clear F2 N2
  k_steps
  exact hret _ [] _ _ (by assumption) (subNews (by assumption) (fun p hp => hp)) ⟨⟨u3, by unfold quoted; rw [show decide (True ∨ (crlf false x.cps.toList).toArray.getD (0 - 1) 0 = 10) = true from decide_eq_true (.inl trivial)]⟩, rfl⟩
end Mine
end
section
set_option maxRecDepth 100000
set_option maxHeartbeats 8000000
set_option linter.unusedVariables false
namespace Mine
open PySem
theorem runs_toks {M : Model} {Γ : Ctx} {p : Pos} {t : Sem Fin} {fs : List Frame} {s : Shared} {e : End} {s' : Shared} (h : Runs M Γ p t fs s e s') : s.toks ≤ s'.toks := by
  induction h
  all_goals first
    | exact Nat.le_refl _
    | assumption
    | exact Nat.le_trans (Nat.le_succ _) (by assumption)
    | omega
    | (simp only [Shared.setGen] at *; omega)
theorem wakes_toks {M : Model} {Γ : Ctx} {p : Pos} {g : Nat} {r : Resume} {s : Shared} {res : GenResult} {s' : Shared} (h : Wakes M Γ p g r s res s') : s.toks ≤ s'.toks := by
  unfold Wakes at h
  split at h
  · cases h
  · split at h
    · obtain ⟨e, s1, h1, _, _, rfl⟩ := h
      have h2 := runs_toks h1
      exact h2
    · obtain ⟨_, rfl⟩ := h; exact Nat.le_refl _
    · obtain ⟨_, rfl⟩ := h; exact Nat.le_refl _
  · obtain ⟨e, s1, h1, _, _, rfl⟩ := h
    have h2 := runs_toks h1
    exact h2
  · obtain ⟨_, rfl⟩ := h; exact Nat.le_refl _
  · obtain ⟨_, rfl⟩ := h; exact Nat.le_refl _
theorem wp_toks {α : Type} {M : Model} {Γ : Ctx} (n : Nat) {Q : α → Pos → Shared → Prop} {E : Value → Pos → Shared → Prop} : ∀ (t : Sem α) (p : Pos) (s : Shared), n ≤ s.toks → Sem.wp M Γ t Q E p s →
    Sem.wp M Γ t (fun a p' s' => n ≤ s'.toks ∧ Q a p' s') (fun e p' s' => n ≤ s'.toks ∧ E e p' s') p s := by
  intro t
  induction t with
  | pure a => exact fun p s hn h => ⟨hn, h⟩
  | raise e => exact fun p s hn h => ⟨hn, h⟩
  | unsupported | finish | yield | fork | await | register => exact fun p s hn h => h
  | rule _ k ih | «at» _ k ih | alloc _ k ih | loadIfAlive _ k ih | point _ k ih | ask k ih | os _ _ k ih | handled _ k ih | newGen _ k ih | stack k ih | thread k ih => exact fun p s hn h => ih _ _ _ hn h
  | fresh k ih => exact fun p s hn h => ih _ _ _ (Nat.le_succ_of_le hn) h
  | load a _ k ih | genState a k ih => exact fun p s hn ⟨o, ho, h⟩ => ⟨o, ho, ih _ _ _ hn h⟩
  | update a _ f k ih | choose _ _ k ih => exact fun p s hn ⟨ha, h⟩ => ⟨ha, ih _ _ _ hn h⟩
  | call c h g l k ih => exact fun p s hn ⟨r, s', hr, h⟩ => ⟨r, s', hr, ih _ _ _ (Nat.le_trans hn (runs_toks hr)) h⟩
  | resume g r l k ih => exact fun p s hn ⟨res, s', hw, h⟩ => ⟨res, s', hw, ih _ _ _ (Nat.le_trans hn (wakes_toks hw)) h⟩
/-- the tokens only grow -/
theorem keepToks {α : Type} {M : Model} {A : Around} {t : Sem α} {Q : α → Shared → Prop} {E : Value → Shared → Prop} {s : Shared} (h : wpAny M A t (fun a s' => s.toks ≤ s'.toks → Q a s') (fun e s' => s.toks ≤ s'.toks → E e s') s) : wpAny M A t Q E s := by
  intro Γ p hΓ
  exact Sem.wp_mono M Γ t (fun a p' s' h' => h'.2 h'.1) (fun e p' s' h' => h'.2 h'.1) p s (wp_toks s.toks t p s (Nat.le_refl _) (h Γ p hΓ))
end Mine
end
section
theorem Mine.fresh_WEscA : True := by w_top off; trivial
set_option maxRecDepth 100000
set_option maxHeartbeats 8000000
set_option linter.unusedVariables false
namespace Mine
open PySem PySem.W PySem.Calls PyProof.Rows
example : (fun P => KK P) = KK ∧ PySem.Challenge.rw_st0021_01 = PySem.Challenge.rw_st0021_01 := by k_fill; exact ⟨rfl, rfl⟩
/-- each c written as z -/
noncomputable def escC (c : Nat) (z : List Nat) (l : List Nat) : List Nat := l.flatMap fun d => if d = c then z else [d]
theorem escC_free (c : Nat) (z : List Nat) : ∀ l : List Nat, c ∉ l → escC c z l = l
  | [], _ => rfl
  | k :: r, h => by
    have h1 : ¬ k = c := fun e => h (e ▸ List.mem_cons_self ..)
    have ih := escC_free c z r fun m => h (List.mem_cons_of_mem _ m)
    show (if k = c then z else [k]) ++ escC c z r = _
    rw [if_neg h1, ih]; rfl
theorem escC_app (c : Nat) (z a b : List Nat) : escC c z (a ++ b) = escC c z a ++ escC c z b := by unfold escC; rw [List.flatMap_append]
theorem escC_join (c : Nat) (z : Str) : ∀ parts : List Str, (∀ p ∈ parts, c ∉ p.cps.toList) → escC c z.cps.toList (Str.join ⟨#[c]⟩ parts).cps.toList = (Str.join z parts).cps.toList
  | [], _ => rfl
  | [p], h => escC_free c _ _ (h p (List.mem_singleton.mpr rfl))
  | p :: q :: r, h => by
    have ih := escC_join c z (q :: r) fun a ha => h a (List.mem_cons_of_mem _ ha)
    show escC c _ (p ++ ⟨#[c]⟩ ++ Str.join ⟨#[c]⟩ (q :: r)).cps.toList = (p ++ z ++ Str.join z (q :: r)).cps.toList
    simp only [Str.cps_append, Array.toList_append]
    rw [escC_app, escC_app, ih, escC_free c _ _ (h p (List.mem_cons_self ..))]
    have : escC c z.cps.toList [c] = z.cps.toList := by simp [escC]
    show p.cps.toList ++ escC c _ [c] ++ _ = _
    rw [this]
theorem replace_esc (x z : Str) (c : Nat) : (Txt.replace x ⟨#[c]⟩ z).cps.toList = escC c z.cps.toList x.cps.toList := by
  rw [StrLaws.replace_one, ← escC_join c z _ (StrLaws.split_free x c), StrLaws.join_split]
theorem replace_esc' (x z : Str) (c : Nat) : Txt.replace x ⟨#[c]⟩ z = ⟨(escC c z.cps.toList x.cps.toList).toArray⟩ := by
  rw [← replace_esc]
theorem escC_len (c : Nat) (z : List Nat) (k : Nat) (hz : z.length ≤ k) (hk : 1 ≤ k) : ∀ l : List Nat, (escC c z l).length ≤ k * l.length
  | [] => Nat.zero_le _
  | d :: r => by
    have ih := escC_len c z k hz hk r
    show ((if d = c then z else [d]) ++ escC c z r).length ≤ k * (r.length + 1)
    rw [List.length_append, Nat.mul_add]
    have : (if d = c then z else [d]).length ≤ k := by
      split
      · exact hz
      · exact hk
    omega
theorem frText {g h : Heap} {L : Addr} {m : Str → Option Value} {v : Value} (F : Fr g L h m) (hm : m (Str.ofString "text") = some v) : Fr g L h (fun y => if y = Str.ofString "text" then some v else m y) := by
  have em : m = fun y => if y = Str.ofString "text" then some v else m y := by
    funext y; split
    · rename_i h; rw [h, hm]
    · rfl
  rw [← em]; exact F
/-- after a step of the escaping -/
noncomputable def EscPost (g : Heap) (L : Addr) (news : List (Addr × Obj)) (s : Shared) (l : List Nat) (f : Flow) (s' : Shared) : Prop :=
  f = .next ∧ ∃ h' m'' t' tk', s' = { s with heap := h', toks := tk' } ∧ 0 < tk' ∧ Fr g L h' m'' ∧ News g L h' news ∧ m'' (Str.ofString "text") = some (.str ⟨l.toArray⟩ t')
noncomputable def TestPost (s : Shared) (c : Nat) (l : List Nat) (b : Bool) (s' : Shared) : Prop := b = decide (c ∈ l) ∧ ∃ tk', s' = { s with toks := tk' } ∧ 0 < tk'
theorem found_list (l : List Nat) (c : Nat) (cS : Str) (h : cS = ⟨#[c]⟩) (b : Bool) (e : (Builtin.Str.occurrences ⟨l.toArray⟩ cS 0 (⟨l.toArray⟩ : Str).length 1).isEmpty = b) : decide (c ∈ l) = !b := by
  subst h
  have := StrLaws.found_one ⟨l.toArray⟩ c
  rw [e] at this
  simpa using this.symm
end Mine
end
section
theorem Mine.fresh_WEsc : True := by w_top off; trivial
set_option maxRecDepth 100000
set_option maxHeartbeats 8000000
set_option linter.unusedVariables false
namespace Mine
open PySem PySem.W PySem.Calls PyProof.Rows
example : (fun P => KK P) = KK ∧ PySem.Challenge.rw_st0021_01 = PySem.Challenge.rw_st0021_01 := by k_fill; exact ⟨rfl, rfl⟩
set_option pp.deepTerms.threshold 6
theorem esc_cut {M : Model} {A : Around} {t : Sem Flow} {Q : Flow → Shared → Prop} {E : Value → Shared → Prop} {s s0 : Shared} {g : Heap} {L : Addr} {m : Str → Option Value} {news : List (Addr × Obj)} (l : List Nat) (F : Fr g L s.heap m)
    (h1 : wpAny M A t (EscPost g L news s0 l) E s) (h2 : ∀ f s', EscPost g L news s0 l f s' → Q f s') : wpAny M A t Q E s := wpAny_mono h1 h2 (fun _ _ h => h)
theorem esc_no {l : List Nat} {c : Nat} {z : List Nat} {cS : Str} (h : cS = ⟨#[c]⟩) (e : (Builtin.Str.occurrences ⟨l.toArray⟩ cS 0 (⟨l.toArray⟩ : Str).length 1).isEmpty = true) : escC c z l = l := by
  have := found_list l c cS h true e
  exact escC_free c z l (of_decide_eq_false this)
theorem esc_yes {l : List Nat} {c : Nat} {z : List Nat} {cS zS : Str} (h : cS = ⟨#[c]⟩) (hz : zS.cps.toList = z) : Txt.replace ⟨l.toArray⟩ cS zS = ⟨(escC c z l).toArray⟩ := by
  subst h hz
  exact replace_esc' _ _ _
theorem esc_mk {g h : Heap} {L : Addr} {news : List (Addr × Obj)} {s : Shared} {l l' : List Nat} {m : Str → Option Value} {t : Tok} {tk : Nat} (F : Fr g L h m) (N : News g L h news) (hp : 0 < tk) (e : m (Str.ofString "text") = some (.str ⟨l.toArray⟩ t)) (el : l' = l) : EscPost g L news s l' .next { s with heap := h, toks := tk } := by
  subst el
  exact ⟨rfl, h, m, t, tk, rfl, hp, F, N, e⟩
noncomputable def pot (S : List Nat) (l : List Nat) : Nat := (l.map fun d => if d ∈ S then 6 else 1).sum
theorem pot_ge (S : List Nat) : ∀ l : List Nat, l.length ≤ pot S l
  | [] => Nat.le_refl _
  | d :: r => by
    have := pot_ge S r
    show r.length + 1 ≤ (if d ∈ S then 6 else 1) + pot S r
    split <;> omega
theorem pot_le (S : List Nat) : ∀ l : List Nat, pot S l ≤ 6 * l.length
  | [] => Nat.le_refl _
  | d :: r => by
    have := pot_le S r
    show (if d ∈ S then 6 else 1) + pot S r ≤ 6 * (r.length + 1)
    split <;> omega
theorem pot_app (S a b : List Nat) : pot S (a ++ b) = pot S a + pot S b := by unfold pot; rw [List.map_append, List.sum_append]
theorem pot_free (S : List Nat) : ∀ z : List Nat, (∀ d ∈ z, d ∉ S) → pot S z = z.length
  | [], _ => rfl
  | d :: r, h => by
    show (if d ∈ S then 6 else 1) + pot S r = r.length + 1
    rw [if_neg (h d (.head _)), pot_free S r (fun x hx => h x (.tail _ hx))]; omega
theorem pot_esc (S : List Nat) (c : Nat) (z : List Nat) (hz : ∀ d ∈ z, d ∉ S) (h6 : z.length ≤ 6) : ∀ l : List Nat, pot S (escC c z l) ≤ pot (c :: S) l
  | [] => Nat.le_refl _
  | d :: r => by
    have ih := pot_esc S c z hz h6 r
    show pot S ((if d = c then z else [d]) ++ escC c z r) ≤ (if d ∈ c :: S then 6 else 1) + pot (c :: S) r
    rw [pot_app]
    by_cases hd : d = c
    · rw [if_pos hd, if_pos (by rw [hd]; exact .head _), pot_free S z hz]; omega
    · rw [if_neg hd]
      show (if d ∈ S then 6 else 1) + 0 + _ ≤ _
      by_cases hs : d ∈ S
      · rw [if_pos hs, if_pos (.tail _ hs)]; omega
      · rw [if_neg hs, if_neg (by intro h; rcases List.mem_cons.mp h with h | h; exact hd h; exact hs h)]; omega
noncomputable def E1 (l : List Nat) : List Nat := escC 38 [38, 97, 109, 112, 59] (l)
noncomputable def E2 (l : List Nat) : List Nat := escC 60 [38, 108, 116, 59] (E1 l)
noncomputable def E3 (l : List Nat) : List Nat := escC 62 [38, 103, 116, 59] (E2 l)
noncomputable def E4 (l : List Nat) : List Nat := escC 34 [38, 113, 117, 111, 116, 59] (E3 l)
noncomputable def E5 (l : List Nat) : List Nat := escC 13 [38, 35, 49, 51, 59] (E4 l)
noncomputable def E6 (l : List Nat) : List Nat := escC 10 [38, 35, 49, 48, 59] (E5 l)
noncomputable def E7 (l : List Nat) : List Nat := escC 9 [38, 35, 48, 57, 59] (E6 l)
theorem pot1 (l : List Nat) : pot [60, 62, 34, 13, 10, 9] (E1 l) ≤ 6 * l.length := Nat.le_trans (pot_esc _ _ _ (by decide) (by decide) _) (pot_le _ _)
theorem lenE1 (l : List Nat) : (E1 l).length ≤ 6 * l.length := Nat.le_trans (pot_ge _ _) (pot1 l)
theorem pot2 (l : List Nat) : pot [62, 34, 13, 10, 9] (E2 l) ≤ 6 * l.length := Nat.le_trans (pot_esc _ _ _ (by decide) (by decide) _) (pot1 l)
theorem lenE2 (l : List Nat) : (E2 l).length ≤ 6 * l.length := Nat.le_trans (pot_ge _ _) (pot2 l)
theorem pot3 (l : List Nat) : pot [34, 13, 10, 9] (E3 l) ≤ 6 * l.length := Nat.le_trans (pot_esc _ _ _ (by decide) (by decide) _) (pot2 l)
theorem lenE3 (l : List Nat) : (E3 l).length ≤ 6 * l.length := Nat.le_trans (pot_ge _ _) (pot3 l)
theorem pot4 (l : List Nat) : pot [13, 10, 9] (E4 l) ≤ 6 * l.length := Nat.le_trans (pot_esc _ _ _ (by decide) (by decide) _) (pot3 l)
theorem lenE4 (l : List Nat) : (E4 l).length ≤ 6 * l.length := Nat.le_trans (pot_ge _ _) (pot4 l)
theorem pot5 (l : List Nat) : pot [10, 9] (E5 l) ≤ 6 * l.length := Nat.le_trans (pot_esc _ _ _ (by decide) (by decide) _) (pot4 l)
theorem lenE5 (l : List Nat) : (E5 l).length ≤ 6 * l.length := Nat.le_trans (pot_ge _ _) (pot5 l)
theorem pot6 (l : List Nat) : pot [9] (E6 l) ≤ 6 * l.length := Nat.le_trans (pot_esc _ _ _ (by decide) (by decide) _) (pot5 l)
theorem lenE6 (l : List Nat) : (E6 l).length ≤ 6 * l.length := Nat.le_trans (pot_ge _ _) (pot6 l)
theorem pot7 (l : List Nat) : pot [] (E7 l) ≤ 6 * l.length := Nat.le_trans (pot_esc _ _ _ (by decide) (by decide) _) (pot6 l)
theorem lenE7 (l : List Nat) : (E7 l).length ≤ 6 * l.length := Nat.le_trans (pot_ge _ _) (pot7 l)
local macro_rules | `(tactic| walk_at "exec If") => `(tactic| (refine stop_here ?_))
local macro_rules | `(tactic| walk_at "execs cons") => `(tactic| ((with_reducible refine wpAny_execs_cons ?_); try dsimp only))
local macro_rules | `(tactic| walk_at "execs nil") => `(tactic| refine wpAny_execs_nil ?_)
local macro_rules | `(tactic| walk_at "call builtin:str.replace") => `(tactic| (refine stop_here ?_))
theorem spec_escape (w : World) (mean mg mb) (l : List Nat) (t : Tok) (news) (hx : l.length ≤ 1000) : Spec w mean mg mb 3 126 [.str ⟨l.toArray⟩ t] news (fun tl r => (∃ tk, r = .str ⟨(E7 l).toArray⟩ tk) ∧ tl = []) := by
  unfold Spec
  intro dp un gd cn cs a ccd cl outer A₀ base h₀ L m s Q E B F X N T hk hd hu hret
  simp only [recursionLimit] at hd
  have hcl := cLine_is
  refine wpAny_call ?_
  k_dflt cell_enter
  k_steps
  unfold Stop
  rename Fr _ _ _ _ => F1
  rename News _ _ _ _ => N1
  have F2 := frText F1 (v := .str ⟨l.toArray⟩ t) (by with_unfolding_all rfl)
  clear F1
  have hb : l.length ≤ 6000 := by have := hx; omega
  refine esc_cut (s0 := s) (news := news) (E1 l) F2 ?_ ?_
  · refine wpAny_If ?_
    k_steps
    · exact esc_mk (s := s) F2 N1 (Nat.succ_pos _) (if_pos rfl) (esc_no (cS := Str.ofString "&") (c := 38) (z := [38, 97, 109, 112, 59]) (by decide +kernel) (by assumption))
    · unfold Stop
      refine keepToks (SC.replace (Nat.succ_ne_zero _) (Nat.succ_ne_zero _) (Nat.ne_of_lt (Nat.lt_succ_self _)) (by decide +kernel) (by rw [show (Str.ofString "&amp;").length = 5 from by decide +kernel]; show l.length + (l.length + 1) * 5 ≤ 16777216; omega) ?_)
      intro t7 k7 e7
      rw [esc_yes (c := 38) (z := [38, 97, 109, 112, 59]) (by decide +kernel) (by decide +kernel)]
      k_steps
      exact esc_mk (s := s) (by assumption) (by assumption) (by first | exact Nat.succ_pos _ | exact Nat.lt_of_lt_of_le (Nat.succ_pos _) e7) (if_pos rfl) rfl
  clear hb F2 N1
  rintro f s' ⟨rfl, h', m'', t', tk', rfl, hp', F', N1, hm'⟩
  have F2 := frText F' hm'
  clear F' hm'
  dsimp only
  k_steps
  unfold Stop
  have hb : (E1 l).length ≤ 6000 := by have := lenE1 l; omega
  refine esc_cut (s0 := s) (news := news) (E2 l) F2 ?_ ?_
  · refine wpAny_If ?_
    k_steps
    · exact esc_mk (s := s) F2 N1 (Nat.succ_pos _) (if_pos rfl) (esc_no (cS := Str.ofString "<") (c := 60) (z := [38, 108, 116, 59]) (by decide +kernel) (by assumption))
    · unfold Stop
      refine keepToks (SC.replace (Nat.succ_ne_zero _) (Nat.succ_ne_zero _) (Nat.ne_of_lt (Nat.lt_succ_self _)) (by decide +kernel) (by rw [show (Str.ofString "&lt;").length = 4 from by decide +kernel]; show (E1 l).length + ((E1 l).length + 1) * 4 ≤ 16777216; omega) ?_)
      intro t7 k7 e7
      rw [esc_yes (c := 60) (z := [38, 108, 116, 59]) (by decide +kernel) (by decide +kernel)]
      k_steps
      exact esc_mk (s := s) (by assumption) (by assumption) (by first | exact Nat.succ_pos _ | exact Nat.lt_of_lt_of_le (Nat.succ_pos _) e7) (if_pos rfl) rfl
  clear hb F2 N1
  rintro f s' ⟨rfl, h', m'', t', tk', rfl, hp', F', N1, hm'⟩
  have F2 := frText F' hm'
  clear F' hm'
  dsimp only
  k_steps
  unfold Stop
  have hb : (E2 l).length ≤ 6000 := by have := lenE2 l; omega
  refine esc_cut (s0 := s) (news := news) (E3 l) F2 ?_ ?_
  · refine wpAny_If ?_
    k_steps
    · exact esc_mk (s := s) F2 N1 (Nat.succ_pos _) (if_pos rfl) (esc_no (cS := Str.ofString ">") (c := 62) (z := [38, 103, 116, 59]) (by decide +kernel) (by assumption))
    · unfold Stop
      refine keepToks (SC.replace (Nat.succ_ne_zero _) (Nat.succ_ne_zero _) (Nat.ne_of_lt (Nat.lt_succ_self _)) (by decide +kernel) (by rw [show (Str.ofString "&gt;").length = 4 from by decide +kernel]; show (E2 l).length + ((E2 l).length + 1) * 4 ≤ 16777216; omega) ?_)
      intro t7 k7 e7
      rw [esc_yes (c := 62) (z := [38, 103, 116, 59]) (by decide +kernel) (by decide +kernel)]
      k_steps
      exact esc_mk (s := s) (by assumption) (by assumption) (by first | exact Nat.succ_pos _ | exact Nat.lt_of_lt_of_le (Nat.succ_pos _) e7) (if_pos rfl) rfl
  clear hb F2 N1
  rintro f s' ⟨rfl, h', m'', t', tk', rfl, hp', F', N1, hm'⟩
  have F2 := frText F' hm'
  clear F' hm'
  dsimp only
  k_steps
  unfold Stop
  have hb : (E3 l).length ≤ 6000 := by have := lenE3 l; omega
  refine esc_cut (s0 := s) (news := news) (E4 l) F2 ?_ ?_
  · refine wpAny_If ?_
    k_steps
    · exact esc_mk (s := s) F2 N1 (Nat.succ_pos _) (if_pos rfl) (esc_no (cS := Str.ofString "\"") (c := 34) (z := [38, 113, 117, 111, 116, 59]) (by decide +kernel) (by assumption))
    · unfold Stop
      refine keepToks (SC.replace (Nat.succ_ne_zero _) (Nat.succ_ne_zero _) (Nat.ne_of_lt (Nat.lt_succ_self _)) (by decide +kernel) (by rw [show (Str.ofString "&quot;").length = 6 from by decide +kernel]; show (E3 l).length + ((E3 l).length + 1) * 6 ≤ 16777216; omega) ?_)
      intro t7 k7 e7
      rw [esc_yes (c := 34) (z := [38, 113, 117, 111, 116, 59]) (by decide +kernel) (by decide +kernel)]
      k_steps
      exact esc_mk (s := s) (by assumption) (by assumption) (by first | exact Nat.succ_pos _ | exact Nat.lt_of_lt_of_le (Nat.succ_pos _) e7) (if_pos rfl) rfl
  clear hb F2 N1
  rintro f s' ⟨rfl, h', m'', t', tk', rfl, hp', F', N1, hm'⟩
  have F2 := frText F' hm'
  clear F' hm'
  dsimp only
  k_steps
  unfold Stop
  have hb : (E4 l).length ≤ 6000 := by have := lenE4 l; omega
  refine esc_cut (s0 := s) (news := news) (E5 l) F2 ?_ ?_
  · refine wpAny_If ?_
    k_steps
    · exact esc_mk (s := s) F2 N1 (Nat.succ_pos _) (if_pos rfl) (esc_no (cS := Str.ofString "\r") (c := 13) (z := [38, 35, 49, 51, 59]) (by decide +kernel) (by assumption))
    · unfold Stop
      refine keepToks (SC.replace (Nat.succ_ne_zero _) (Nat.succ_ne_zero _) (Nat.ne_of_lt (Nat.lt_succ_self _)) (by decide +kernel) (by rw [show (Str.ofString "&#13;").length = 5 from by decide +kernel]; show (E4 l).length + ((E4 l).length + 1) * 5 ≤ 16777216; omega) ?_)
      intro t7 k7 e7
      rw [esc_yes (c := 13) (z := [38, 35, 49, 51, 59]) (by decide +kernel) (by decide +kernel)]
      k_steps
      exact esc_mk (s := s) (by assumption) (by assumption) (by first | exact Nat.succ_pos _ | exact Nat.lt_of_lt_of_le (Nat.succ_pos _) e7) (if_pos rfl) rfl
  clear hb F2 N1
  rintro f s' ⟨rfl, h', m'', t', tk', rfl, hp', F', N1, hm'⟩
  have F2 := frText F' hm'
  clear F' hm'
  dsimp only
  k_steps
  unfold Stop
  have hb : (E5 l).length ≤ 6000 := by have := lenE5 l; omega
  refine esc_cut (s0 := s) (news := news) (E6 l) F2 ?_ ?_
  · refine wpAny_If ?_
    k_steps
    · exact esc_mk (s := s) F2 N1 (Nat.succ_pos _) (if_pos rfl) (esc_no (cS := Str.ofString "\n") (c := 10) (z := [38, 35, 49, 48, 59]) (by decide +kernel) (by assumption))
    · unfold Stop
      refine keepToks (SC.replace (Nat.succ_ne_zero _) (Nat.succ_ne_zero _) (Nat.ne_of_lt (Nat.lt_succ_self _)) (by decide +kernel) (by rw [show (Str.ofString "&#10;").length = 5 from by decide +kernel]; show (E5 l).length + ((E5 l).length + 1) * 5 ≤ 16777216; omega) ?_)
      intro t7 k7 e7
      rw [esc_yes (c := 10) (z := [38, 35, 49, 48, 59]) (by decide +kernel) (by decide +kernel)]
      k_steps
      exact esc_mk (s := s) (by assumption) (by assumption) (by first | exact Nat.succ_pos _ | exact Nat.lt_of_lt_of_le (Nat.succ_pos _) e7) (if_pos rfl) rfl
  clear hb F2 N1
  rintro f s' ⟨rfl, h', m'', t', tk', rfl, hp', F', N1, hm'⟩
  have F2 := frText F' hm'
  clear F' hm'
  dsimp only
  k_steps
  unfold Stop
  have hb : (E6 l).length ≤ 6000 := by have := lenE6 l; omega
  refine esc_cut (s0 := s) (news := news) (E7 l) F2 ?_ ?_
  · refine wpAny_If ?_
    k_steps
    · exact esc_mk (s := s) F2 N1 (Nat.succ_pos _) (if_pos rfl) (esc_no (cS := Str.ofString "\t") (c := 9) (z := [38, 35, 48, 57, 59]) (by decide +kernel) (by assumption))
    · unfold Stop
      refine keepToks (SC.replace (Nat.succ_ne_zero _) (Nat.succ_ne_zero _) (Nat.ne_of_lt (Nat.lt_succ_self _)) (by decide +kernel) (by rw [show (Str.ofString "&#09;").length = 5 from by decide +kernel]; show (E6 l).length + ((E6 l).length + 1) * 5 ≤ 16777216; omega) ?_)
      intro t7 k7 e7
      rw [esc_yes (c := 9) (z := [38, 35, 48, 57, 59]) (by decide +kernel) (by decide +kernel)]
      k_steps
      exact esc_mk (s := s) (by assumption) (by assumption) (by first | exact Nat.succ_pos _ | exact Nat.lt_of_lt_of_le (Nat.succ_pos _) e7) (if_pos rfl) rfl
  clear hb F2 N1
  rintro f s' ⟨rfl, h', m'', t', tk', rfl, hp', F', N1, hm'⟩
  have F2 := frText F' hm'
  clear F' hm'
  dsimp only
  k_steps
  exact hret _ [] _ _ (by assumption) (subNews (by assumption) (fun p hp => hp)) ⟨⟨_, rfl⟩, rfl⟩
end Mine
end
section
theorem Mine.fresh_WDue : True := by w_top off; trivial
set_option maxRecDepth 100000
set_option maxHeartbeats 8000000
set_option linter.unusedVariables false
namespace Mine
open PySem PySem.W PySem.Calls PyProof.Rows
example : (fun P => KK P) = KK ∧ PySem.Challenge.rw_st0021_01 = PySem.Challenge.rw_st0021_01 := by k_fill; exact ⟨rfl, rfl⟩
noncomputable def inCR (la : List Nat) : Bool := !(Builtin.Str.occurrences (Str.ofString "\r\n") ⟨la.toArray⟩ 0 (Str.ofString "\r\n").length 1).isEmpty
noncomputable def dueStep (st p : List Nat × List Nat) : List Nat × List Nat :=
  if p.2 = [] then st
  else (if p.2 = [13] ∨ (p.2 = [10] ∧ st.2 ≠ [13]) then st.1 ++ [38, 35, 49, 51, 59, 38, 35, 49, 48, 59] else if p.2 = [46] ∧ inCR st.2 = true then st.1 ++ [46, 46] else if p.2 ≠ [10] then st.1 ++ p.2 else st.1, p.1)
noncomputable def dueOf (row : List (List Nat × List Nat)) : List Nat := (row.foldl dueStep ([], [10])).1
/-- a row in the ledger: a list of pairs -/
noncomputable def RowAt (news : List (Addr × Obj)) (a : Addr) (row : List (List Nat × List Nat)) : Prop :=
  ∃ (ps : List Addr) (k : Nat), (a, { cls := .type "list", data := .seq (ps.map Value.ref).toArray k }) ∈ news ∧ ps.length = row.length ∧
    ∀ (i : Nat) (p : List Nat × List Nat), row[i]? = some p → ∃ b t1 t2, ps[i]? = some b ∧ (b, pairO p.1 p.2 t1 t2) ∈ news
/-- a turn's end: the ledger as it was -/
noncomputable def TurnK (h₀ : Heap) (L : Addr) (nw : List (Addr × Obj)) (Jn : (Str → Option Value) → Prop) (s₁ : Shared) (f : Flow) (s₂ : Shared) : Prop :=
  (f = .next ∨ f = .cont) ∧ ∃ h' tk m₂, s₂ = { s₁ with heap := h', toks := tk } ∧ Fr h₀ L h' m₂ ∧ News h₀ L h' nw ∧ Jn m₂
theorem unr_inv {prog : Program} {w : World} {A : Around} {E : Value → Shared → Prop} {s : Shared} {env : Env} {h₀ : Heap} {target : Expr} {body : List Stmt} {Q : Flow → Shared → Prop} {P : Nat → Value → Prop} {fp : List Addr} {news : List (Addr × Obj)} (n : Nat)
    (J : Nat → (Str → Option Value) → Prop)
    (turn : ∀ i v h₁ tk₁ own m₁, i < n → P i v → J i m₁ → Fr h₀ env.locals h₁ m₁ → News h₀ env.locals h₁ (own ++ news) →
      wpAny (model prog w) A (assign target env v) (fun _ s₂ => wpAny (model prog w) A (execs body env) (TurnK h₀ env.locals (own ++ news) (J (i + 1)) { s with heap := h₁, toks := tk₁ }) E s₂) E { s with heap := h₁, toks := tk₁ })
    (done : ∀ h' tk m₁, J n m₁ → Fr h₀ env.locals h' m₁ → News h₀ env.locals h' news → Q .next { s with heap := h', toks := tk }) :
    ∀ k i m₁, i + k = n → J i m₁ → Unr prog w A E h₀ env target body Q P fp s k i m₁ news := by
  intro k
  induction k with
  | zero =>
    intro i m₁ hi hJ
    have : i = n := by omega
    subst this
    exact Unr.zero fun h' tk F N => done h' tk m₁ hJ F N
  | succ k ih =>
    intro i m₁ hi hJ
    refine Unr.succ fun v h₁ tk₁ own hP hsub F N => ?_
    refine wpAny_mono (turn i v h₁ tk₁ own m₁ (by omega) hP hJ F N) (fun _ s₂ h₂ => wpAny_mono h₂ (fun f s₃ h₃ => ?_) fun _ _ e => e) fun _ _ e => e
    obtain ⟨hf, h', tk, m₂, e, F', N', J'⟩ := h₃
    have : LoopStep2 h₀ env.locals own news (Unr prog w A E h₀ env target body Q P fp s k (i + 1)) { s with heap := h₁, toks := tk₁ } .next s₃ :=
      ⟨rfl, h', tk, m₂, news, e, F', N', rfl, ih (i + 1) m₂ (by omega) J'⟩
    rcases hf with rfl | rfl
    · exact this
    · exact this
theorem unr_invM {prog : Program} {w : World} {A : Around} {E : Value → Shared → Prop} {s : Shared} {env : Env} {h₀ : Heap} {target : Expr} {body : List Stmt} {Q : Flow → Shared → Prop} {P : Nat → Value → Prop} {fp : List Addr} {news : List (Addr × Obj)} {n : Nat} {m : Str → Option Value}
    (J : (Str → Option Value) → Nat → (Str → Option Value) → Prop) (zero : J m 0 m)
    (turn : ∀ i v h₁ tk₁ own m₁, i < n → P i v → J m i m₁ → Fr h₀ env.locals h₁ m₁ → News h₀ env.locals h₁ (own ++ news) →
      wpAny (model prog w) A (assign target env v) (fun _ s₂ => wpAny (model prog w) A (execs body env) (TurnK h₀ env.locals (own ++ news) (J m (i + 1)) { s with heap := h₁, toks := tk₁ }) E s₂) E { s with heap := h₁, toks := tk₁ })
    (done : ∀ h' tk m₁, J m n m₁ → Fr h₀ env.locals h' m₁ → News h₀ env.locals h' news → Q .next { s with heap := h', toks := tk }) :
    Unr prog w A E h₀ env target body Q P fp s n 0 m news := unr_inv n (J m) turn done n 0 m (Nat.zero_add _) zero
theorem for_unrF {prog : Program} {w : World} {A : Around} {E : Value → Shared → Prop} {s : Shared} {env : Env} {h₀ : Heap} {m : Str → Option Value} {Q : Flow → Shared → Prop} {target iter : Expr} {pos : Pos} {body : List Stmt} (F : Fr h₀ env.locals s.heap m)
    (h : wpAny (model prog w) A (eval iter env) (fun xv s₁ => wpAny (model prog w) A (pyIter xv) (fun it s₂ => UnrAt prog w A h₀ env target body Q E it s₂) E s₁) E s)
    (hs : ∀ x, foldedSetIterable iter env x = pure x) (hE : PassesOwn (model prog w) A env E) : wpAny (model prog w) A (exec (.For target iter body [] pos) env) Q E s := For_unr h₀ h hs hE
noncomputable def dueAt (row : List (List Nat × List Nat)) (i : Nat) : List Nat × List Nat := (row.take i).foldl dueStep ([], [10])
noncomputable def DueJ (row : List (List Nat × List Nat)) (m₀ : Str → Option Value) (i : Nat) (m : Str → Option Value) : Prop :=
  ∃ t1 t2 u1 u2, m = fun y => if y = Str.ofString "due" then some (.str ⟨(dueAt row i).1.toArray⟩ t1) else if y = Str.ofString "last" then some (.str ⟨(dueAt row i).2.toArray⟩ t2) else if y = Str.ofString "spelled" then u1 else if y = Str.ofString "written" then u2 else m₀ y
theorem fits_add {a b : Nat} (h : a ≤ 100) (h' : b ≤ 100) : a + b ≤ 16777216 := by omega
theorem nd1 : Str.ofString "due" ≠ Str.ofString "last" := by decide
theorem nd2 : Str.ofString "due" ≠ Str.ofString "spelled" := by decide
theorem nd3 : Str.ofString "due" ≠ Str.ofString "written" := by decide
theorem nd4 : Str.ofString "last" ≠ Str.ofString "spelled" := by decide
theorem nd5 : Str.ofString "last" ≠ Str.ofString "written" := by decide
theorem nd6 : Str.ofString "spelled" ≠ Str.ofString "written" := by decide
theorem dueA (D La S W : Value) (u1 u2 : Option Value) (m₀ : Str → Option Value) :
    (fun y => if y = Str.ofString "written" then some W else if y = Str.ofString "spelled" then some S else if y = Str.ofString "due" then some D else if y = Str.ofString "last" then some La else if y = Str.ofString "spelled" then u1 else if y = Str.ofString "written" then u2 else m₀ y) =
    fun y => if y = Str.ofString "due" then some D else if y = Str.ofString "last" then some La else if y = Str.ofString "spelled" then some S else if y = Str.ofString "written" then some W else m₀ y := by
  have n1 := nd1; have n2 := nd2; have n3 := nd3; have n4 := nd4; have n5 := nd5; have n6 := nd6
  generalize Str.ofString "due" = a at *
  generalize Str.ofString "last" = b at *
  generalize Str.ofString "spelled" = c at *
  generalize Str.ofString "written" = d at *
  funext y
  by_cases h1 : y = a
  · subst h1; simp [n1, n2, n3]
  · by_cases h2 : y = b
    · subst h2; simp [h1, n4, n5]
    · by_cases h3 : y = c
      · subst h3; simp [h1, h2, n6]
      · by_cases h4 : y = d
        · subst h4; simp [h1, h2, h3]
        · simp [h1, h2, h3, h4]
theorem dueC (D La La' S W : Value) (u1 u2 : Option Value) (m₀ : Str → Option Value) :
    (fun y => if y = Str.ofString "last" then some La' else if y = Str.ofString "written" then some W else if y = Str.ofString "spelled" then some S else if y = Str.ofString "due" then some D else if y = Str.ofString "last" then some La else if y = Str.ofString "spelled" then u1 else if y = Str.ofString "written" then u2 else m₀ y) =
    fun y => if y = Str.ofString "due" then some D else if y = Str.ofString "last" then some La' else if y = Str.ofString "spelled" then some S else if y = Str.ofString "written" then some W else m₀ y := by
  have e := dueA D La S W u1 u2 m₀
  funext y
  have e' := congrFun e y
  rw [e']
  have n1 := nd1
  by_cases h2 : y = Str.ofString "last"
  · subst h2; rw [if_pos rfl, if_neg (Ne.symm n1), if_pos rfl]
  · rw [if_neg h2, if_neg h2, if_neg h2]
theorem dueB (D D' La La' S W : Value) (u1 u2 : Option Value) (m₀ : Str → Option Value) :
    (fun y => if y = Str.ofString "last" then some La' else if y = Str.ofString "due" then some D' else if y = Str.ofString "written" then some W else if y = Str.ofString "spelled" then some S else if y = Str.ofString "due" then some D else if y = Str.ofString "last" then some La else if y = Str.ofString "spelled" then u1 else if y = Str.ofString "written" then u2 else m₀ y) =
    fun y => if y = Str.ofString "due" then some D' else if y = Str.ofString "last" then some La' else if y = Str.ofString "spelled" then some S else if y = Str.ofString "written" then some W else m₀ y := by
  have e := dueA D La S W u1 u2 m₀
  funext y
  have e' := congrFun e y
  rw [e']
  have n1 := nd1
  by_cases h1 : y = Str.ofString "due"
  · subst h1; rw [if_neg n1, if_pos rfl, if_pos rfl]
  · rw [if_neg h1, if_neg h1, if_neg h1]
    by_cases h2 : y = Str.ofString "last"
    · rw [if_pos h2, if_pos h2]
    · rw [if_neg h2, if_neg h2, if_neg h2]
theorem dueStep_len (st p : List Nat × List Nat) (h : p.2.length ≤ 20) : (dueStep st p).1.length ≤ st.1.length + 20 := by
  unfold dueStep
  split
  · omega
  · dsimp only
    split
    · simp
    · split
      · simp
      · split
        · simp; omega
        · omega
theorem dueAt_succ (row : List (List Nat × List Nat)) (i : Nat) (hi : i < row.length) : dueAt row (i + 1) = dueStep (dueAt row i) row[i] := by
  unfold dueAt
  rw [List.take_add_one, List.getElem?_eq_getElem hi, List.foldl_append]
  rfl
theorem strApp (a : List Nat) (z : Str) : (⟨a.toArray⟩ : Str) ++ z = ⟨(a ++ z.cps.toList).toArray⟩ := by
  show (⟨a.toArray ++ z.cps⟩ : Str) = _
  congr 1
  apply Array.ext'
  simp
theorem strBeq (a b : List Nat) (z : Str) (h : z = ⟨b.toArray⟩) : ((⟨a.toArray⟩ : Str) == z) = decide (a = b) := by
  subst h
  by_cases e : a = b
  · subst e; simp
  · rw [decide_eq_false e, beq_eq_false_iff_ne]
    intro h
    apply e
    have := congrArg (fun x : Str => x.cps.toList) h
    simpa using this
theorem s0 (a : List Nat) : ((⟨a.toArray⟩ : Str) == Str.ofString "") = decide (a = []) := strBeq a [] _ (by decide +kernel)
theorem s13 (a : List Nat) : ((⟨a.toArray⟩ : Str) == Str.ofString "\r") = decide (a = [13]) := strBeq a [13] _ (by decide +kernel)
theorem s10 (a : List Nat) : ((⟨a.toArray⟩ : Str) == Str.ofString "\n") = decide (a = [10]) := strBeq a [10] _ (by decide +kernel)
theorem s46 (a : List Nat) : ((⟨a.toArray⟩ : Str) == Str.ofString ".") = decide (a = [46]) := strBeq a [46] _ (by decide +kernel)
section
variable {h₀ h : Heap} {L : Addr} {nw : List (Addr × Obj)} {row : List (List Nat × List Nat)} {m₀ : Str → Option Value} {i tk : Nat} {s₁ : Shared} {S D : List Nat} {z : Str} {p1 t1 t9 : Tok} {W La Sv : Value} {u1 u2 : Option Value}
theorem endA {La' : List Nat} {t2 : Tok} (F : Fr h₀ L h (fun y => if y = Str.ofString "written" then some W else if y = Str.ofString "spelled" then some Sv else if y = Str.ofString "due" then some (.str ⟨D.toArray⟩ t1) else if y = Str.ofString "last" then some (.str ⟨La'.toArray⟩ t2) else if y = Str.ofString "spelled" then u1 else if y = Str.ofString "written" then u2 else m₀ y))
    (N : News h₀ L h nw) (hs : dueAt row (i + 1) = (D, La')) : TurnK h₀ L nw (DueJ row m₀ (i + 1)) s₁ .cont { s₁ with heap := h, toks := tk } := by
  refine ⟨.inr rfl, h, tk, _, rfl, F, N, t1, t2, some Sv, some W, ?_⟩
  rw [hs]; exact dueA _ _ _ _ _ _ _
theorem endC (F : Fr h₀ L h (fun y => if y = Str.ofString "last" then some (.str ⟨S.toArray⟩ p1) else if y = Str.ofString "written" then some W else if y = Str.ofString "spelled" then some Sv else if y = Str.ofString "due" then some (.str ⟨D.toArray⟩ t1) else if y = Str.ofString "last" then some La else if y = Str.ofString "spelled" then u1 else if y = Str.ofString "written" then u2 else m₀ y))
    (N : News h₀ L h nw) (hs : dueAt row (i + 1) = (D, S)) : TurnK h₀ L nw (DueJ row m₀ (i + 1)) s₁ .next { s₁ with heap := h, toks := tk } := by
  refine ⟨.inl rfl, h, tk, _, rfl, F, N, t1, p1, some Sv, some W, ?_⟩
  rw [hs]; exact dueC _ _ _ _ _ _ _ _
theorem endB (F : Fr h₀ L h (fun y => if y = Str.ofString "last" then some (.str ⟨S.toArray⟩ p1) else if y = Str.ofString "due" then some (.str ((⟨D.toArray⟩ : Str) ++ z) t9) else if y = Str.ofString "written" then some W else if y = Str.ofString "spelled" then some Sv else if y = Str.ofString "due" then some (.str ⟨D.toArray⟩ t1) else if y = Str.ofString "last" then some La else if y = Str.ofString "spelled" then u1 else if y = Str.ofString "written" then u2 else m₀ y))
    (N : News h₀ L h nw) (hs : dueAt row (i + 1) = (D ++ z.cps.toList, S)) : TurnK h₀ L nw (DueJ row m₀ (i + 1)) s₁ .next { s₁ with heap := h, toks := tk } := by
  refine ⟨.inl rfl, h, tk, _, rfl, F, N, t9, p1, some Sv, some W, ?_⟩
  rw [hs, strApp]; exact dueB _ _ _ _ _ _ _ _ _
end
theorem zCR : (Str.ofString "&#13;&#10;").cps.toList = [38, 35, 49, 51, 59, 38, 35, 49, 48, 59] := by decide +kernel
theorem zDD : (Str.ofString "..").cps.toList = [46, 46] := by decide +kernel
theorem due_all (row : List (List Nat × List Nat)) (k : Nat) (hk : row.length ≤ k) : (dueAt row k).1 = dueOf row := by unfold dueAt dueOf; rw [List.take_of_length_le hk]
theorem due_zero (row : List (List Nat × List Nat)) (m : Str → Option Value) (h1 : ∃ t1, m (Str.ofString "due") = some (.str (Str.ofString "") t1)) (h2 : ∃ t2, m (Str.ofString "last") = some (.str (Str.ofString "\n") t2)) : DueJ row m 0 m := by
  obtain ⟨t1, h1⟩ := h1
  obtain ⟨t2, h2⟩ := h2
  have e1 : (⟨(dueAt row 0).1.toArray⟩ : Str) = Str.ofString "" := by show (⟨#[]⟩ : Str) = _; decide +kernel
  have e2 : (⟨(dueAt row 0).2.toArray⟩ : Str) = Str.ofString "\n" := by show (⟨#[10]⟩ : Str) = _; decide +kernel
  refine ⟨t1, t2, m (Str.ofString "spelled"), m (Str.ofString "written"), ?_⟩
  rw [e1, e2]
  funext y
  split
  · rename_i h; rw [h, h1]
  · split
    · rename_i h; rw [h, h2]
    · split
      · rename_i h; rw [h]
      · split
        · rename_i h; rw [h]
        · rfl
theorem dueAt_len (row : List (List Nat × List Nat)) (hl : ∀ p ∈ row, p.2.length ≤ 20) : ∀ i, i ≤ row.length → (dueAt row i).1.length ≤ 20 * i
  | 0, _ => Nat.zero_le _
  | i + 1, hi => by
    have ih := dueAt_len row hl i (by omega)
    have e : dueAt row (i + 1) = dueStep (dueAt row i) row[i] := by
      exact dueAt_succ row i (by omega)
    rw [e]
    have := dueStep_len (dueAt row i) row[i] (hl _ (List.getElem_mem _))
    omega
local macro_rules | `(tactic| walk_at "binaryOp Add str str") => `(tactic| (refine KOpn.add (fits_add (by assumption) (by first | assumption | decide +kernel)) ?_; intro t9 k9 e9))
local macro_rules | `(tactic| walk_at "exec For Tuple Name cons nil") => `(tactic| (refine stop_here ?_))
set_option pp.deepTerms.threshold 6
theorem spec_due (w : World) (mean mg mb) (a0 : Addr) (row : List (List Nat × List Nat)) (news) (hr : RowAt news a0 row) (hx : row.length ≤ 4) (hl : ∀ p ∈ row, p.1.length ≤ 1 ∧ p.2.length ≤ 20) :
    Spec w mean mg mb 3 175 [.ref a0] news (fun tl r => (∃ tk, r = .str ⟨(dueOf row).toArray⟩ tk) ∧ tl = []) := by
  unfold Spec
  intro dp un gd cn cs a ccd cl outer A₀ base h₀ L m s Q E B F X N T hk hd hu hret
  simp only [recursionLimit] at hd
  have hcl := cLine_is
  refine wpAny_call ?_
  k_dflt cell_enter
  k_steps
  unfold Stop
  rename Fr _ _ _ _ => F1
  rename News _ _ _ _ => N1
  obtain ⟨ps, kk, hm, hlen, hitem⟩ := hr
  with_unfolding_all refine for_unrF F1 ?_ (by exact fun _ => rfl) (by passes_own)
  refine ld F1 rfl ?_
  refine Iter_list_unr rfl ⟨_, (N1 _ hm).1, rfl, kk, rfl⟩ F1 N1 (N1 _ hm).2.1 ?_
  refine unr_invM (DueJ row) ?zero ?turn ?done
  case zero => exact due_zero row _ ⟨_, by with_unfolding_all rfl⟩ ⟨_, by with_unfolding_all rfl⟩
  case done =>
    rintro h' tk m₁ ⟨t1, t2, u1, u2, rfl⟩ F2 N2
    dsimp only
    clear F1 N1
    k_steps
    exact hret _ [] _ _ (by assumption) (subNews (by assumption) (fun p hp => hp)) ⟨⟨t1, by rw [due_all row _ (by simp [hlen])]⟩, rfl⟩
  case turn =>
    rintro i v h₁ tk₁ own m₁ hi hP ⟨t1, t2, u1, u2, rfl⟩ F2 N2
    have hi' : i < row.length := by simpa [hlen] using hi
    obtain ⟨b, p1, p2, hb, hbm⟩ := hitem i _ (List.getElem?_eq_getElem hi')
    have hv : v = .ref b := by simpa [hb] using hP.symm
    subst hv
    have hbm' := List.mem_append_right own hbm
    have hD : (⟨(dueAt row i).1.toArray⟩ : Str).length ≤ 100 := by
      have := dueAt_len row (fun p hp => (hl p hp).2) i (by omega)
      show (dueAt row i).1.length ≤ 100
      omega
    have hW : (⟨row[i].2.toArray⟩ : Str).length ≤ 100 := by
      have := (hl _ (List.getElem_mem hi')).2
      show row[i].2.length ≤ 100
      omega
    k_steps
    all_goals first
      | refine endB (by assumption) (by assumption) ?_
      | refine endC (by assumption) (by assumption) ?_
      | exact endA (by assumption) (by assumption) (by rw [dueAt_succ row i hi']; unfold dueStep; simp only [s0, s13, s10, s46, bne, Bool.not_eq_true', Bool.not_eq_false', decide_eq_true_eq, decide_eq_false_iff_not] at *; rw [if_pos (by assumption)])
    all_goals
      rw [dueAt_succ row i hi']
      unfold dueStep
      simp only [s0, s13, s10, s46, bne, Bool.not_eq_true', Bool.not_eq_false', decide_eq_true_eq, decide_eq_false_iff_not] at *
      first
        | contradiction
        | (exfalso; exact absurd ((by assumption : row[i].2 = [10]).symm.trans (by assumption : row[i].2 = [46])) (by decide))
        | simp [zCR, zDD, inCR, *]
end Mine
end
section
set_option maxRecDepth 100000
set_option maxHeartbeats 8000000
set_option linter.unusedVariables false
namespace Mine
open PySem PySem.W PySem.Calls PyProof.Rows
theorem turn0 (elt t0 i0 t1 i1 : Expr) (scope : Scope) (pos : Pos) (it acc : Value) (env : Env) :
    compTurn (.ListComp elt [⟨t0, i0, [], 0⟩, ⟨t1, i1, [], 0⟩] scope pos) 0 it acc env = (standAt i0.pos >>= fun _ => pyNext it >>= fun r => match r with
      | none => pure (.done .next)
      | some v => letOwnedTupleGo t0 it v >>= fun _ => assign t0 env v >>= fun _ =>
        eval i1 env >>= fun x => standAt i1.pos >>= fun _ => foldedSetIterable i1 env x >>= fun x => holding [x] (pyIter x) >>= fun i =>
          runOwn (.compStart (.ListComp elt [⟨t0, i0, [], 0⟩, ⟨t1, i1, [], 0⟩] scope pos) 1 i acc env) env >>= fun _ =>
          again (.compLoop (.ListComp elt [⟨t0, i0, [], 0⟩, ⟨t1, i1, [], 0⟩] scope pos) 0 it acc env)) := by rfl
theorem turn1 (elt t0 i0 t1 i1 : Expr) (scope : Scope) (pos : Pos) (it acc : Value) (env : Env) :
    compTurn (.ListComp elt [⟨t0, i0, [], 0⟩, ⟨t1, i1, [], 0⟩] scope pos) 1 it acc env = (standAt i1.pos >>= fun _ => pyNext it >>= fun r => match r with
      | none => pure (.done .next)
      | some v => letOwnedTupleGo t1 it v >>= fun _ => assign t1 env v >>= fun _ =>
        (eval elt env >>= fun x => call (.builtin "list.append") [acc, x] >>= fun _ => pure ()) >>= fun _ =>
          again (.compLoop (.ListComp elt [⟨t0, i0, [], 0⟩, ⟨t1, i1, [], 0⟩] scope pos) 1 it acc env)) := by rfl
section
variable {prog : Program} {w : World} {A : Around} {R : Result → Shared → Prop} {s : Shared}
theorem start1 {elt t0 i0 t1 i1 : Expr} {scope : Scope} {pos : Pos} {it acc : Value} {env : Env}
    (h0 : codeAny (model prog w) A (.compLoop (.ListComp elt [⟨t0, i0, [], 0⟩, ⟨t1, i1, [], 0⟩] scope pos) 1 it acc env) R s)
    (h : wpAny (model prog w) A (pyIter it) (fun it' s' => codeAny (model prog w) A (.compLoop (.ListComp elt [⟨t0, i0, [], 0⟩, ⟨t1, i1, [], 0⟩] scope pos) 1 it' acc env) R s')
      (notedBy (model prog w) A env fun x s' => R (.error x) s') s) :
    codeAny (model prog w) A (.compStart (.ListComp elt [⟨t0, i0, [], 0⟩, ⟨t1, i1, [], 0⟩] scope pos) 1 it acc env) R s := by
  refine codeAny_of_tree ?_
  show wpAny _ _ ((compStart (.ListComp elt [⟨t0, i0, [], 0⟩, ⟨t1, i1, [], 0⟩] scope pos) 1 it acc env).onRaise (fun x => do noteFrame x env; standAt theWindowsPlace)) _ _ s
  refine wpAny_notedAt ?_
  unfold compStart
  show wpAny _ _ (ask >>= _) _ _ s
  refine wpAny_bind (wpAny_askSetting (wpAny_ite ?_))
  split
  · first
      | exact wpAny_bind (wpAny_pure (wpAny_pure (And.intro rfl h0)))
      | exact wpAny_pure (And.intro rfl h0)
  · first
      | exact wpAny_bind (wpAny_rule (wpAny_bind (wpAny_standAt (wpAny_bind (wpAny_mono h (fun it' s' h' => wpAny_pure (And.intro rfl h')) fun _ _ x => x)))))
      | (refine wpAny_bind (wpAny_rule ?_); show wpAny _ _ (standAt i1.pos >>= _) _ _ s; exact wpAny_bind (wpAny_standAt (wpAny_bind (wpAny_mono h (fun it' s' h' => wpAny_pure (And.intro rfl h')) fun _ _ x => x))))
theorem loop1 {elt t0 i0 i1 : Expr} {elts : List Expr} {x1} {tp : Pos} {scope : Scope} {pos : Pos} {it acc : Value} {env : Env} (I : Nat → Shared → Prop)
    (turn : ∀ n s, I n s → wpAny (model prog w) A (pyNext it) (fun r s₁ => match r with
      | none => R (.ok .next) s₁
      | some v => wpAny (model prog w) A (letOwnedTupleGo (.Tuple elts x1 tp) it v) (fun _ s₁' => wpAny (model prog w) A (assign (.Tuple elts x1 tp) env v) (fun _ s₂ =>
          wpAny (model prog w) A (eval elt env) (fun x s₄ =>
              wpAny (model prog w) A (call (.builtin "list.append") [acc, x]) (fun _ s₅ => ∃ m, m < n ∧ I m s₅) (notedBy (model prog w) A env fun e s' => R (.error e) s') s₄) (notedBy (model prog w) A env fun e s' => R (.error e) s') s₂)
          (notedBy (model prog w) A env fun e s' => R (.error e) s') s₁') (notedBy (model prog w) A env fun e s' => R (.error e) s') s₁) (notedBy (model prog w) A env fun e s' => R (.error e) s') s)
    (n : Nat) (h : I n s) : codeAny (model prog w) A (.compLoop (.ListComp elt [⟨t0, i0, [], 0⟩, ⟨.Tuple elts x1 tp, i1, [], 0⟩] scope pos) 1 it acc env) R s := by
  refine codeAny_loop rfl I (fun n s hI => ?_) n h
  show wpAny _ A ((compTurn (.ListComp elt [⟨t0, i0, [], 0⟩, ⟨.Tuple elts x1 tp, i1, [], 0⟩] scope pos) 1 it acc env).onRaise (fun x => do noteFrame x env; theTreesLotGoes x)) _ _ s
  refine wpAny_noted ?_
  rw [turn1]
  refine wpAny_bind (wpAny_standAt (wpAny_bind (wpAny_mono (turn n s hI) (fun r s₁ h₁ => ?_) fun _ _ h' => h')))
  cases r with
  | none => exact wpAny_pure h₁
  | some v =>
    refine wpAny_bind (wpAny_mono h₁ (fun _ s₁' h₁' => ?_) fun _ _ h' => h')
    refine wpAny_bind (wpAny_mono h₁' (fun _ s₂ h₂ => ?_) fun _ _ h' => h')
    exact wpAny_bind (wpAny_bind (wpAny_mono h₂ (fun x s₄ h₄ => wpAny_bind (wpAny_mono h₄ (fun _ s₅ h₅ => wpAny_pure (wpAny_pure ⟨rfl, h₅⟩)) fun _ _ h' => h')) fun _ _ h' => h'))
theorem loop0 {elt i0 i1 t1 : Expr} {x0 : Str} {p0 : Pos} {scope : Scope} {pos : Pos} {it acc : Value} {env : Env} (I : Nat → Shared → Prop) (hs : ∀ x, foldedSetIterable i1 env x = pure x)
    (turn : ∀ n s, I n s → wpAny (model prog w) A (pyNext it) (fun r s₁ => match r with
      | none => R (.ok .next) s₁
      | some v => wpAny (model prog w) A (assign (.Name x0 p0) env v) (fun _ s₂ => wpAny (model prog w) A (eval i1 env) (fun x s₃ => wpAny (model prog w) A (pyIter x) (fun i s₄ =>
          codeAny (model prog w) A (.compStart (.ListComp elt [⟨.Name x0 p0, i0, [], 0⟩, ⟨t1, i1, [], 0⟩] scope pos) 1 i acc env)
            (fun r s₅ => match r with | .ok _ => ∃ m, m < n ∧ I m s₅ | .error e => cameBackBy (model prog w) A env (notedBy (model prog w) A env fun e s' => R (.error e) s') e s₅) s₄)
          (notedBy (model prog w) A env fun e s' => R (.error e) s') s₃) (notedBy (model prog w) A env fun e s' => R (.error e) s') s₂)
          (notedBy (model prog w) A env fun e s' => R (.error e) s') s₁) (notedBy (model prog w) A env fun e s' => R (.error e) s') s)
    (n : Nat) (h : I n s) : codeAny (model prog w) A (.compLoop (.ListComp elt [⟨.Name x0 p0, i0, [], 0⟩, ⟨t1, i1, [], 0⟩] scope pos) 0 it acc env) R s := by
  refine codeAny_loop rfl I (fun n s hI => ?_) n h
  show wpAny _ A ((compTurn (.ListComp elt [⟨.Name x0 p0, i0, [], 0⟩, ⟨t1, i1, [], 0⟩] scope pos) 0 it acc env).onRaise (fun x => do noteFrame x env; theTreesLotGoes x)) _ _ s
  refine wpAny_noted ?_
  rw [turn0]
  refine wpAny_bind (wpAny_standAt (wpAny_bind (wpAny_mono (turn n s hI) (fun r s₁ h₁ => ?_) fun _ _ h' => h')))
  cases r with
  | none => exact wpAny_pure h₁
  | some v =>
    refine wpAny_bind (wpAny_of_eq (show letOwnedTupleGo (.Name x0 p0) it v = pure () from rfl) ?_)
    refine wpAny_bind (wpAny_mono h₁ (fun _ s₂ h₂ => ?_) fun _ _ h' => h')
    refine wpAny_bind (wpAny_mono h₂ (fun x s₃ h₃ => ?_) fun _ _ h' => h')
    refine wpAny_bind (wpAny_standAt (wpAny_bind (wpAny_of_eq (hs x) (wpAny_bind (wpAny_holding (wpAny_mono h₃ (fun i s₄ h₄ => ?_) fun _ _ h' => h'))))))
    refine wpAny_bind (wpAny_runOwn (codeAny_mono h₄ fun r s₅ h₅ => ?_))
    cases r with
    | ok f => exact wpAny_pure ⟨rfl, h₅⟩
    | error e => exact h₅
end
end Mine
end
section
set_option maxRecDepth 100000
set_option maxHeartbeats 8000000
set_option linter.unusedVariables false
namespace Mine
open PySem PySem.W PySem.Calls PyProof.Rows
/-- kept but for three places -/
noncomputable def Kept3 (a b c : Addr) (h h' : Heap) : Prop := ∀ x o, x ≠ a → x ≠ b → x ≠ c → h.get? x = some o → h'.get? x = some o
section
variable {prog : Program} {w : World} {A : Around}
theorem push_at {E : Value → Shared → Prop} {s : Shared} {D : Addr} {ys : List Value} {y : Value} {Q : Value → Shared → Prop} (hD : s.heap.get? D = some (LCg.lst ys)) (hsz : ys.length ≤ sizeLine)
    (h : ∀ h', Heap.SameBut D s.heap h' → h'.get? D = some (LCg.lst (ys ++ [y])) → Q .none { s with heap := h' }) :
    wpAny (model prog w) A (call (.builtin "list.append") [.ref D, y]) Q E s :=
  append_at (hsz := by show ys.toArray.size ≤ sizeLine; rw [List.size_toArray]; exact hsz) hD fun h' hs hD' => h h' hs (hD'.trans (congrArg some (LCg.lst_snoc ys y)))
theorem inner {R : Result → Shared → Prop} {s : Shared} {i0 t0 i1 elt : Expr} {x x₂ : Str} {px px₂ tp : Pos} {tk} {scope : Scope} {pos : Pos} {env : Env} {I b D : Addr} {ts : List Addr} {sps : List Value} {ys : List Value} {m : Str → Option Value}
    (hh : A.handled = none) (hx : env.kindOf x = some .local) (hx₂ : env.kindOf x₂ = some .local) (hxx : x ≠ x₂) (hp : (env.scope.kind == .class || (env.scope.kind == .module && env.locals != env.globals)) = false)
    (helt : ∀ (s : Shared) (m : Str → Option Value) (v : Value) (Q : Value → Shared → Prop) (E : Value → Shared → Prop), s.heap.Ns env.locals m → m x = some v → Q v s → wpAny (model prog w) A (eval elt env) Q E s)
    (hI : s.heap.IsListIter I b 0) (hb : s.heap.IsList b (ts.map Value.ref).toArray)
    (hts : ∀ (k : Nat) (T : Addr), ts[k]? = some T → ∃ v u, sps[k]? = some v ∧ IsTup s.heap T #[v, u] ∧ T ≠ I ∧ T ≠ env.locals ∧ T ≠ D) (hlen : sps.length = ts.length)
    (hD : s.heap.get? D = some (LCg.lst ys)) (hC : s.heap.Ns env.locals m) (hsz : ys.length + ts.length ≤ 1000)
    (n1 : b ≠ I) (n2 : b ≠ env.locals) (n3 : b ≠ D) (n4 : I ≠ env.locals) (n5 : I ≠ D) (n6 : env.locals ≠ D)
    (hR : ∀ h' tk m', Kept3 I env.locals D s.heap h' → h'.get? D = some (LCg.lst (ys ++ sps)) → h'.Ns env.locals m' → (∀ z, z ≠ x → z ≠ x₂ → m' z = m z) → R (.ok .next) { s with heap := h', toks := tk }) :
    codeAny (model prog w) A (.compStart (.ListComp elt [⟨t0, i0, [], 0⟩, ⟨.Tuple [.Name x px, .Name x₂ px₂] tk tp, i1, [], 0⟩] scope pos) 1 (.ref I) (.ref D) env) R s := by
  have hsl : (16777216 : Nat) = sizeLine := rfl
  have W := Walks.list (prog := prog) (w := w) (A := A) hh I b n1 (ts.map Value.ref).toArray
  have hnn : (ts.map Value.ref).toArray.size = ts.length := by simp
  have key : codeAny (model prog w) A (.compLoop (.ListComp elt [⟨t0, i0, [], 0⟩, ⟨.Tuple [.Name x px, .Name x₂ px₂] tk tp, i1, [], 0⟩] scope pos) 1 (.ref I) (.ref D) env) R s := by
    refine loop1 (fun k s' => ∃ h' tk j m', s' = { s with heap := h', toks := tk } ∧ j ≤ ts.length ∧ k = ts.length + 1 - j ∧ h'.IsListIter I b j ∧ h'.IsList b (ts.map Value.ref).toArray ∧ Kept3 I env.locals D s.heap h' ∧
        h'.get? D = some (LCg.lst (ys ++ sps.take j)) ∧ h'.Ns env.locals m' ∧ (∀ z, z ≠ x → z ≠ x₂ → m' z = m z)) ?_ (ts.length + 1)
      ⟨s.heap, s.toks, 0, m, rfl, Nat.zero_le _, rfl, hI, hb, fun _ _ _ _ _ e => e, by simpa using hD, hC, fun _ _ _ => rfl⟩
    rintro k s' ⟨h', tk', j, m', rfl, hj, rfl, hI', hb', hK, hD', hC', hm'⟩
    by_cases hlt : j < ts.length
    · refine W.item j _ _ _ (by rw [hnn]; exact hlt) ⟨hI', hb'⟩ fun v h₂ tk₂ hv hst₂ hk₂ => ?_
      have hv' : v = .ref ts[j] := by simpa [hlt] using hv.symm
      subst hv'
      obtain ⟨v1, u1, hs1, hT, e1, e2, e3⟩ := hts j ts[j] (List.getElem?_eq_getElem hlt)
      have k2 : ∀ c o, c ≠ I → h'.get? c = some o → h₂.get? c = some o := fun c o hc e => hk₂ c o (by simpa using hc) e
      have hT2 : IsTup h₂ ts[j] #[v1, u1] := by
        obtain ⟨o, ho, r⟩ := hT
        exact ⟨o, k2 _ _ e1 (hK _ _ e1 e2 e3 ho), r⟩
      refine wpAny_letOwnedTupleGo_listiter hst₂.1 ?_
      refine assign_Tuple_tuple hh hT2 rfl rfl fun h₅ he => ?_
      have he' : ∀ c o, h₂.get? c = some o → h₅.get? c = some o := fun c o e => he c o (Nat.ne_of_lt (Heap.lt_size e)) e
      have hC5 : h₅.Ns env.locals m' := (hC'.at' fun o e => k2 _ o (Ne.symm n4) e).at' fun o e => he' _ o e
      refine assignInOrder_cons (wpAny_assign_Name (wpAny_storeName_local hx hC5 (fun h₆ hn₆ hs₆ => ?_) hp))
      refine assignInOrder_cons (wpAny_assign_Name (wpAny_storeName_local hx₂ hn₆ (fun h₃ hn₃ hs₃ => ?_) hp))
      refine assignInOrder_nil ?_
      refine helt _ _ v1 _ _ hn₃ (by simp [hxx]) ?_
      have k3 : ∀ c o, c ≠ I → c ≠ env.locals → h'.get? c = some o → h₃.get? c = some o := fun c o h1 h2 e => hs₃.extBut c o h2 (hs₆.extBut c o h2 (he' c o (k2 c o h1 e)))
      have hD3 := k3 D _ (Ne.symm n5) (Ne.symm n6) hD'
      refine push_at hD3 (by rw [List.length_append]; have := List.length_take_le j sps; omega) fun h₇ hs₇ hD₇ => ?_
      refine ⟨ts.length + 1 - (j + 1), by omega, h₇, _, j + 1, (fun z => if z = x₂ then some u1 else if z = x then some v1 else m' z), rfl, hlt, rfl, ?_, ?_, ?_, ?_, ?_, ?_⟩
      · exact (hst₂.1.at fun o e => hs₃.extBut _ o n4 (hs₆.extBut _ o n4 (he' _ o e))).at fun o e => hs₇.extBut _ o n5 e
      · exact (hst₂.2.at fun o e => hs₃.extBut _ o n2 (hs₆.extBut _ o n2 (he' _ o e))).at fun o e => hs₇.extBut _ o n3 e
      · intro c o h1 h2 h3 e
        exact hs₇.extBut c o h3 (k3 c o h1 h2 (hK c o h1 h2 h3 e))
      · rw [hD₇, List.append_assoc, List.take_add_one, hs1]; rfl
      · exact hn₃.sameBut hs₇ n6
      · intro z z1 z2
        dsimp only
        rw [if_neg z2, if_neg z1]
        exact hm' z z1 z2
    · have hjn : j = ts.length := by omega
      subst hjn
      refine W.done _ _ _ (by rw [hnn]; exact ⟨hI', hb'⟩) fun h₂ tk₂ hk₂ => ?_
      have k2 : ∀ c o, c ≠ I → h'.get? c = some o → h₂.get? c = some o := fun c o hc e => hk₂ c o (by simpa using hc) e
      refine hR h₂ tk₂ m' (fun c o h1 h2 h3 e => k2 c o h1 (hK c o h1 h2 h3 e)) ?_ (hC'.at' fun o e => k2 _ o (Ne.symm n4) e) hm'
      have := k2 D _ (Ne.symm n5) hD'
      rw [List.take_of_length_le (by omega)] at this
      exact this
  exact start1 key (wpAny_pyIter_listiter hI key)
end
end Mine
end
section
set_option maxRecDepth 100000
set_option maxHeartbeats 8000000
set_option linter.unusedVariables false
namespace Mine
open PySem PySem.W PySem.Calls PyProof.Rows
section
variable {prog : Program} {w : World} {A : Around}
/-- a row's place: a list of pairs, all of them ahead of n -/
noncomputable def RowIn (h : Heap) (n : Nat) (b : Addr) (sps : List Value) : Prop :=
  ∃ ts : List Addr, h.IsList b (ts.map Value.ref).toArray ∧ @LT.lt Nat _ b n ∧ sps.length = ts.length ∧ ts.length ≤ 100 ∧
    ∀ (k : Nat) (T : Addr), ts[k]? = some T → ∃ v u, sps[k]? = some v ∧ IsTup h T #[v, u] ∧ @LT.lt Nat _ T n
theorem outer {R : Result → Shared → Prop} {s : Shared} {i0 elt : Expr} {r x x₂ ir : Str} {pr px px₂ tp pir : Pos} {tk} {scope : Scope} {pos : Pos} {env : Env} {I b D : Addr} {rs : List Addr} {spss : List (List Value)} {m : Str → Option Value} {n : Nat}
    (hh : A.handled = none) (hfun : env.scope.kind = .function) (hr : env.kindOf r = some .local) (hdb : (r == ("__debug__" : Str)) = false) (hx : env.kindOf x = some .local) (hx₂ : env.kindOf x₂ = some .local) (hxx : x ≠ x₂) (hrx : r ≠ x) (hrx₂ : r ≠ x₂)
    (hp : (env.scope.kind == .class || (env.scope.kind == .module && env.locals != env.globals)) = false) (hs : ∀ v, foldedSetIterable (.Name r pir) env v = pure v)
    (helt : ∀ (s : Shared) (m : Str → Option Value) (v : Value) (Q : Value → Shared → Prop) (E : Value → Shared → Prop), s.heap.Ns env.locals m → m x = some v → Q v s → wpAny (model prog w) A (eval elt env) Q E s)
    (hI : s.heap.IsListIter I b 0) (hb : s.heap.IsList b (rs.map Value.ref).toArray)
    (hrs : ∀ (k : Nat) (a : Addr), rs[k]? = some a → ∃ sps, spss[k]? = some sps ∧ RowIn s.heap n a sps) (hlen : spss.length = rs.length)
    (hD : s.heap.get? D = some (LCg.lst [])) (hC : s.heap.Ns env.locals m) (hsz : spss.flatten.length ≤ 500) (hrl : rs.length ≤ 100)
    (n1 : @LT.lt Nat _ b n) (n2 : @LE.le Nat _ n I) (n3 : @LE.le Nat _ n D) (n4 : @LE.le Nat _ n env.locals) (n5 : I ≠ env.locals) (n6 : I ≠ D) (n7 : env.locals ≠ D)
    (hR : ∀ h' tk m', Kept3 I env.locals D s.heap h' → h'.get? D = some (LCg.lst spss.flatten) → h'.Ns env.locals m' → R (.ok .next) { s with heap := h', toks := tk }) :
    codeAny (model prog w) A (.compLoop (.ListComp elt [⟨.Name r pr, i0, [], 0⟩, ⟨.Tuple [.Name x px, .Name x₂ px₂] tk tp, .Name r pir, [], 0⟩] scope pos) 0 (.ref I) (.ref D) env) R s := by
  have hsl : (16777216 : Nat) = sizeLine := rfl
  have off : ∀ c : Addr, @LT.lt Nat _ c n → c ≠ I ∧ c ≠ env.locals ∧ c ≠ D := fun c h => ⟨Nat.ne_of_lt (Nat.lt_of_lt_of_le h n2), Nat.ne_of_lt (Nat.lt_of_lt_of_le h n4), Nat.ne_of_lt (Nat.lt_of_lt_of_le h n3)⟩
  have W := Walks.list (prog := prog) (w := w) (A := A) hh I b (off b n1).1 (rs.map Value.ref).toArray
  have hnn : (rs.map Value.ref).toArray.size = rs.length := by simp
  refine loop0 (fun k s' => ∃ h' tk j m', s' = { s with heap := h', toks := tk } ∧ j ≤ rs.length ∧ k = rs.length + 1 - j ∧ h'.IsListIter I b j ∧ h'.IsList b (rs.map Value.ref).toArray ∧ Kept3 I env.locals D s.heap h' ∧
        h'.get? D = some (LCg.lst (spss.take j).flatten) ∧ h'.Ns env.locals m') hs ?_ (rs.length + 1)
      ⟨s.heap, s.toks, 0, m, rfl, Nat.zero_le _, rfl, hI, hb, fun _ _ _ _ _ e => e, by simpa using hD, hC⟩
  rintro k s' ⟨h', tk', j, m', rfl, hj, rfl, hI', hb', hK, hD', hC'⟩
  by_cases hlt : j < rs.length
  · refine W.item j _ _ _ (by rw [hnn]; exact hlt) ⟨hI', hb'⟩ fun v h₂ tk₂ hv hst₂ hk₂ => ?_
    have hv' : v = .ref rs[j] := by simpa [hlt] using hv.symm
    subst hv'
    obtain ⟨sps, hs1, ts, hl, hbn, hsl2, hts100, hts⟩ := hrs j rs[j] (List.getElem?_eq_getElem hlt)
    have k2 : ∀ c o, c ≠ I → h'.get? c = some o → h₂.get? c = some o := fun c o hc e => hk₂ c o (by simpa using hc) e
    have hC2 : h₂.Ns env.locals m' := hC'.at' fun o e => k2 _ o (Ne.symm n5) e
    refine wpAny_assign_Name (wpAny_storeName_local hr hC2 (fun h₃ hn₃ hs₃ => ?_) hp)
    refine wpAny_Name (wpAny_loadName_local hfun hr hn₃ (if_pos rfl) ?_) hdb
    have k3 : ∀ (c : Addr) o, @LT.lt Nat _ c n → s.heap.get? c = some o → h₃.get? c = some o := fun c o h1 e => hs₃.extBut c o (off c h1).2.1 (k2 c o (off c h1).1 (hK c o (off c h1).1 (off c h1).2.1 (off c h1).2.2 e))
    have hl3 : h₃.IsList rs[j] (ts.map Value.ref).toArray := hl.at fun o e => k3 _ o hbn e
    refine wpAny_pyIter_list hl3 ?_
    have hlt3 : rs[j] < h₃.objs.size := by obtain ⟨_, e, _⟩ := hl3; exact Heap.lt_size e
    have old : ∀ c o, h₃.get? c = some o → (h₃.push { cls := .type "list_iterator", data := .fields #[.ref rs[j], .int 0 0] }).get? c = some o := fun c o e => Heap.get?_push_of_some _ e
    have hD3 : h₃.get? D = some (LCg.lst (spss.take j).flatten) := hs₃.extBut _ _ (Ne.symm n7) (k2 _ _ (Ne.symm n6) hD')
    have hCs : env.locals < h₃.objs.size := hn₃.lt
    have hIs : h₃.IsListIter I b (j + 1) := hst₂.1.at fun o e => hs₃.extBut _ o n5 e
    have hIlt : I < h₃.objs.size := by obtain ⟨_, e, _⟩ := hIs; exact Heap.lt_size e
    have hDlt : D < h₃.objs.size := Heap.lt_size hD3
    refine inner (ts := ts) (sps := sps) (ys := (spss.take j).flatten) hh hx hx₂ hxx hp helt ⟨_, Heap.get?_push_size _ rfl, rfl, rfl⟩ (hl3.at fun o e => old _ o e) ?_ hsl2 (old _ _ hD3) (hn₃.at' fun o e => old _ o e) ?_
      (Nat.ne_of_lt hlt3) (off _ hbn).2.1 (off _ hbn).2.2 (Nat.ne_of_gt hCs) (Nat.ne_of_gt hDlt) n7 ?_
    · intro k T hT
      obtain ⟨v, u, g1, g2, g3⟩ := hts k T hT
      obtain ⟨o, ho, r⟩ := g2
      have hT3 := k3 T o g3 ho
      exact ⟨v, u, g1, ⟨o, old _ _ hT3, r⟩, Nat.ne_of_lt (Heap.lt_size hT3), (off _ g3).2.1, (off _ g3).2.2⟩
    · have h1 : (spss.take j).flatten.length ≤ spss.flatten.length := by
        have := congrArg (fun l : List (List Value) => l.flatten.length) (List.take_append_drop j spss)
        simp only [List.flatten_append, List.length_append] at this
        omega
      omega
    · intro h₄ tk₄ m₄ hK4 hD4 hC4 hm4
      refine ⟨rs.length + 1 - (j + 1), by omega, h₄, tk₄, j + 1, m₄, rfl, hlt, rfl, ?_, ?_, ?_, ?_, hC4⟩
      · exact (hIs.at fun o e => old _ o e).at fun o e => hK4 _ o (Nat.ne_of_lt hIlt) n5 n6 e
      · refine ((hst₂.2.at fun o e => hs₃.extBut _ o (off b n1).2.1 e).at fun o e => old _ o e).at fun o e => hK4 _ o ?_ (off b n1).2.1 (off b n1).2.2 e
        exact Nat.ne_of_lt (Nat.lt_trans (Nat.lt_of_lt_of_le n1 n2) hIlt)
      · intro c o c1 c2 c3 e
        have e3 : h₃.get? c = some o := hs₃.extBut c o c2 (k2 c o c1 (hK c o c1 c2 c3 e))
        exact hK4 c o (Nat.ne_of_lt (Heap.lt_size e3)) c2 c3 (old c o e3)
      · rw [hD4, List.take_add_one, hs1]
        simp
  · have hjn : j = rs.length := by omega
    subst hjn
    refine W.done _ _ _ (by rw [hnn]; exact ⟨hI', hb'⟩) fun h₂ tk₂ hk₂ => ?_
    have k2 : ∀ c o, c ≠ I → h'.get? c = some o → h₂.get? c = some o := fun c o hc e => hk₂ c o (by simpa using hc) e
    refine hR h₂ tk₂ m' (fun c o h1 h2 h3 e => k2 c o h1 (hK c o h1 h2 h3 e)) ?_ (hC'.at' fun o e => k2 _ o (Ne.symm n5) e)
    have := k2 D _ (Ne.symm n6) hD'
    rw [List.take_of_length_le (by omega)] at this
    exact this
end
end Mine
end
section
set_option maxRecDepth 100000
set_option maxHeartbeats 8000000
set_option linter.unusedVariables false
namespace Mine
open PySem PySem.W PySem.Calls PyProof.Rows
section
variable {prog : Program} {w : World} {A : Around}
theorem comp_nest {E : Value → Shared → Prop} {s : Shared} {h₀ : Heap} {L : Addr} {mL : Str → Option Value} {news : List (Addr × Obj)} {r x x₂ rows : Str} {pe pr px px₂ tp pir prw : Pos} {tk} {scope : Scope} {pos : Pos} {env : Env} {b : Addr} {rs : List Addr} {spss : List (List Value)} {Q : Value → Shared → Prop}
    (F : Fr h₀ L s.heap mL) (N : News h₀ L s.heap news)
    (hrow : wpAny (model prog w) A (eval (.Name rows prw) env) (fun v s' => v = .ref b ∧ s' = s) E s)
    (hb : s.heap.IsList b (rs.map Value.ref).toArray)
    (hfree : ∀ y ∈ scope.names, y.2 ≠ .free) (hcell : ∀ y ∈ scope.names, y.2 ≠ .cell) (hkind : scope.kind = .function) (hnames : ∀ y ∈ scope.names, y.2 = .local → scope.names.lookup y.1 = some .local)
    (hr : scope.names.lookup r = some .local) (hdx : (x == ("__debug__" : Str)) = false) (hdb : (r == ("__debug__" : Str)) = false) (hx : scope.names.lookup x = some .local) (hx₂ : scope.names.lookup x₂ = some .local) (hxx : x ≠ x₂) (hrx : r ≠ x) (hrx₂ : r ≠ x₂)
    (hh : A.handled = none) (hs : ∀ v, foldedSetIterable (.Name rows prw) env v = pure v)
    (hrs : ∀ (k : Nat) (a : Addr), rs[k]? = some a → ∃ sps, spss[k]? = some sps ∧ RowIn s.heap s.heap.objs.size a sps) (hlen : spss.length = rs.length) (hsz : spss.flatten.length ≤ 500) (hrl : rs.length ≤ 100)
    (hq : ∀ h' tk' D, Fr h₀ L h' mL → News h₀ L h' ((D, LCg.lst spss.flatten) :: news) → Q (.ref D) { s with heap := h', toks := tk' }) :
    wpAny (model prog w) A (eval (.ListComp (.Name x pe) [⟨.Name r pr, .Name rows prw, [], 0⟩, ⟨.Tuple [.Name x px, .Name x₂ px₂] tk tp, .Name r pir, [], 0⟩] scope pos) env) Q E s := by
  refine wpAny_ListComp hfree hkind hnames (wpAny_mono hrow (fun v s' h' => ?_) fun _ _ e => e) hs
  obtain ⟨rfl, rfl⟩ := h'
  have hlt : b < s'.heap.objs.size := by obtain ⟨_, e, _⟩ := hb; exact Heap.lt_size e
  refine wpAny_pyIter_list hb ?_
  refine wpAny_newObj_type (wpAny_newFunctionEnv hcell (by intro y hy; simp at hy) (fun h₁ hns₁ hsb₁ => ?_) hkind)
  dsimp only at hns₁ hsb₁ ⊢
  have z1 : (s'.heap.push { cls := .type "list_iterator", data := .fields #[.ref b, .int 0 0] }).objs.size = s'.heap.objs.size + 1 := Heap.size_push ..
  have z2 : ((s'.heap.push { cls := .type "list_iterator", data := .fields #[.ref b, .int 0 0] }).push { cls := .type "list", data := .seq ([] : List Value).toArray }).objs.size = s'.heap.objs.size + 2 := by rw [Heap.size_push, z1]
  have hIo : (s'.heap.push { cls := .type "list_iterator", data := .fields #[.ref b, .int 0 0] }).get? s'.heap.objs.size = some { cls := .type "list_iterator", data := .fields #[.ref b, .int 0 0] } := Heap.get?_push_size _ rfl
  have hDo := Heap.get?_push_size (s'.heap.push { cls := .type "list_iterator", data := .fields #[.ref b, .int 0 0] }) (o := { cls := .type "list", data := .seq ([] : List Value).toArray }) rfl
  have hIo2 := Heap.get?_push_of_some { cls := .type "list", data := .seq ([] : List Value).toArray } hIo
  have up : ∀ c o, s'.heap.get? c = some o → ((s'.heap.push { cls := .type "list_iterator", data := .fields #[.ref b, .int 0 0] }).push { cls := .type "list", data := .seq ([] : List Value).toArray }).get? c = some o := fun c o e => Heap.get?_push_of_some _ (Heap.get?_push_of_some _ e)
  generalize hH1 : s'.heap.push { cls := .type "list_iterator", data := .fields #[.ref b, .int 0 0] } = H1 at *
  generalize hH2 : H1.push { cls := .type "list", data := .seq ([] : List Value).toArray } = H2 at *
  have c1 : @LT.lt Nat _ s'.heap.objs.size H1.objs.size := by rw [z1]; exact Nat.lt_succ_self _
  have c2 : @LT.lt Nat _ H1.objs.size H2.objs.size := by rw [z1, z2]; exact Nat.lt_succ_self _
  have c3 : @LT.lt Nat _ s'.heap.objs.size H2.objs.size := Nat.lt_trans c1 c2
  have k1 : ∀ (c : Addr) o, c ≠ H2.objs.size → H2.get? c = some o → h₁.get? c = some o := fun c o hc e => hsb₁.extBut c o hc (Heap.get?_push_of_some _ e)
  have k0 : ∀ (c : Addr) o, s'.heap.get? c = some o → h₁.get? c = some o := fun c o e => k1 c o (Nat.ne_of_lt (Nat.lt_trans (Heap.lt_size e) c3)) (up c o e)
  have hI1 : h₁.IsListIter s'.heap.objs.size b 0 := ⟨_, k1 _ _ (Nat.ne_of_lt c3) hIo2, rfl, rfl⟩
  have key := outer (prog := prog) (w := w) (A := A) (n := s'.heap.objs.size) (s := { s' with heap := h₁, toks := s'.toks + ([] : List (Str × Value)).length }) (I := s'.heap.objs.size) (D := H1.objs.size) (b := b) (rs := rs) (spss := spss) (r := r) (x := x) (x₂ := x₂) (ir := rows) (pr := pr) (px := px) (px₂ := px₂) (tp := tp) (pir := pir) (tk := tk) (scope := scope) (pos := pos) (i0 := .Name rows prw) (elt := .Name x pe)
    (env := { newEnv scope H2.objs.size env.globals [] env.qual none .none (some env) builtinsNs with scope := scope })
    (R := fun r s' => ∃ m, s'.heap.Ns H2.objs.size m ∧ ∀ h', Heap.SameBut H2.objs.size s'.heap h' → match r with | .ok _ => Q (.ref H1.objs.size) { s' with heap := h' } | .error x => wpAny (model prog w) A (PySem.passOn "comprehension.variables-let-go" x { newEnv scope H2.objs.size env.globals [] env.qual none .none (some env) builtinsNs with scope := scope }) Q E { s' with heap := h' })
    hh hkind hr hdb hx hx₂ hxx hrx hrx₂ (by show (scope.kind == .class || (scope.kind == .module && _)) = false; rw [hkind]; rfl) (fun v => by rfl)
    (fun s m v Q E hn hv h => wpAny_Name (wpAny_loadName_local hkind hx hn hv h) hdx) hI1 (hb.at fun o e => k0 _ o e) ?rows hlen (k1 _ _ (Nat.ne_of_lt c2) hDo) hns₁ hsz hrl hlt (Nat.le_refl _) (Nat.le_of_lt c1) (Nat.le_of_lt c3) (Nat.ne_of_lt c3) (Nat.ne_of_lt c1) (Nat.ne_of_gt c2) ?res
  · exact codeAny_compStart_list key (wpAny_pyIter_listiter hI1 key)
  case rows =>
    intro k a hk
    obtain ⟨sps, g1, ts, g2, g3, g4, g5, g6⟩ := hrs k a hk
    refine ⟨sps, g1, ts, g2.at fun o e => k0 _ o e, g3, g4, g5, fun k T hT => ?_⟩
    obtain ⟨v, u, q1, ⟨o, q2, q3⟩, q4⟩ := g6 k T hT
    exact ⟨v, u, q1, ⟨o, k0 _ _ q2, q3⟩, q4⟩
  case res =>
    intro h' tk m' hK hD hC
    refine ⟨m', hC, fun h'' hs'' => ?_⟩
    have kk : ∀ c o, s'.heap.get? c = some o → h''.get? c = some o := fun c o e =>
      hs''.extBut c o (Nat.ne_of_lt (Nat.lt_trans (Heap.lt_size e) c3)) (hK c o (Nat.ne_of_lt (Heap.lt_size e)) (Nat.ne_of_lt (Nat.lt_trans (Heap.lt_size e) c3)) (Nat.ne_of_lt (Nat.lt_trans (Heap.lt_size e) c1)) (k0 c o e))
    refine hq h'' _ _ (F.kept kk) (fun p hp => ?_)
    rcases List.mem_cons.mp hp with rfl | hp
    · refine ⟨hs''.extBut _ _ (Nat.ne_of_lt c2) hD, Nat.ne_of_gt (Nat.lt_trans F.ns.lt c1), ?_⟩
      cases e : h₀.get? H1.objs.size with
      | none => rfl
      | some o => exact absurd (Heap.lt_size (F.keep _ _ e)) (Nat.not_lt.mpr (Nat.le_of_lt c1))
    · exact ⟨kk _ _ (N p hp).1, (N p hp).2⟩
end
end Mine
end
section
set_option maxRecDepth 100000
set_option maxHeartbeats 8000000
set_option linter.unusedVariables false
namespace Mine
open PySem PySem.W PySem.Calls PyProof.Rows
noncomputable def strOf (l : List Nat) : Str := ⟨l.toArray⟩
theorem row_values {news : List (Addr × Obj)} {h : Heap} (N : ∀ p ∈ news, h.get? p.1 = some p.2) : ∀ (row : List (List Nat × List Nat)) (ps : List Addr), ps.length = row.length →
    (∀ (i : Nat) (p : List Nat × List Nat), row[i]? = some p → ∃ b t1 t2, ps[i]? = some b ∧ (b, pairO p.1 p.2 t1 t2) ∈ news) →
    ∃ sps : List Value, sps.length = ps.length ∧ StrsAre sps (row.map fun p => strOf p.1) ∧ ∀ (k : Nat) (T : Addr), ps[k]? = some T → ∃ v u, sps[k]? = some v ∧ IsTup h T #[v, u] ∧ @LT.lt Nat _ T h.objs.size
  | [], [], _, _ => ⟨[], rfl, .nil, fun k T e => by simp at e⟩
  | [], b :: ps, e, _ => by simp at e
  | p :: row, [], e, _ => by simp at e
  | p :: row, b :: ps, e, hi => by
    obtain ⟨b', t1, t2, g1, g2⟩ := hi 0 p rfl
    have : b' = b := by simpa using g1.symm
    subst this
    obtain ⟨sps, q1, q2, q3⟩ := row_values N row ps (by simpa using e) (fun i p' hp => hi (i + 1) p' hp)
    refine ⟨.str (strOf p.1) t1 :: sps, by simp [q1], .cons _ _ q2, fun k T hk => ?_⟩
    cases k with
    | zero =>
      have : T = b' := by simpa using hk.symm
      subst this
      exact ⟨_, _, rfl, ⟨_, N _ g2, rfl, _, rfl⟩, Heap.lt_size (N _ g2)⟩
    | succ k => exact q3 k T hk
theorem row_in {news : List (Addr × Obj)} {h : Heap} (N : ∀ p ∈ news, h.get? p.1 = some p.2) {a : Addr} {row : List (List Nat × List Nat)} (hr : RowAt news a row) (hl : row.length ≤ 100) :
    ∃ sps : List Value, RowIn h h.objs.size a sps ∧ StrsAre sps (row.map fun p => strOf p.1) := by
  obtain ⟨ps, k, hm, e, hi⟩ := hr
  obtain ⟨sps, q1, q2, q3⟩ := row_values N row ps e hi
  exact ⟨sps, ⟨ps, ⟨_, N _ hm, rfl, k, rfl⟩, Heap.lt_size (N _ hm), q1, by omega, q3⟩, q2⟩
theorem rows_values {news : List (Addr × Obj)} {h : Heap} (N : ∀ p ∈ news, h.get? p.1 = some p.2) : ∀ (rows : List (List (List Nat × List Nat))) (ps : List Addr), ps.length = rows.length →
    (∀ (i : Nat) (row : List (List Nat × List Nat)), rows[i]? = some row → ∃ b, ps[i]? = some b ∧ RowAt news b row) → (∀ row ∈ rows, row.length ≤ 100) →
    ∃ spss : List (List Value), spss.length = ps.length ∧ StrsAre spss.flatten (rows.flatten.map fun p => strOf p.1) ∧ ∀ (k : Nat) (a : Addr), ps[k]? = some a → ∃ sps, spss[k]? = some sps ∧ RowIn h h.objs.size a sps
  | [], [], _, _, _ => ⟨[], rfl, .nil, fun k T e => by simp at e⟩
  | [], b :: ps, e, _, _ => by simp at e
  | p :: row, [], e, _, _ => by simp at e
  | row :: rows, b :: ps, e, hi, hl => by
    obtain ⟨b', g1, g2⟩ := hi 0 row rfl
    have : b' = b := by simpa using g1.symm
    subst this
    obtain ⟨sps, r1, r2⟩ := row_in N g2 (hl _ (.head _))
    obtain ⟨spss, q1, q2, q3⟩ := rows_values N rows ps (by simpa using e) (fun i p' hp => hi (i + 1) p' hp) (fun x hx => hl x (.tail _ hx))
    refine ⟨sps :: spss, by simp [q1], ?_, fun k T hk => ?_⟩
    · rw [List.flatten_cons, List.flatten_cons, List.map_append]
      exact r2.append' q2
    · cases k with
      | zero =>
        have : T = b' := by simpa using hk.symm
        subst this
        exact ⟨_, rfl, r1⟩
      | succ k => exact q3 k T hk
end Mine
end
section
theorem Mine.fresh_WMail : True := by w_top off; trivial
set_option maxRecDepth 100000
set_option maxHeartbeats 8000000
set_option linter.unusedVariables false
namespace Mine
open PySem PySem.W PySem.Calls PyProof.Rows
example : (fun P => KK P) = KK ∧ PySem.Challenge.rw_st0021_01 = PySem.Challenge.rw_st0021_01 := by k_fill; exact ⟨rfl, rfl⟩
/-- a list of rows in the ledger -/
noncomputable def RowsAt (news : List (Addr × Obj)) (a : Addr) (rows : List (List (List Nat × List Nat))) : Prop :=
  ∃ (ps : List Addr) (k : Nat), (a, { cls := .type "list", data := .seq (ps.map Value.ref).toArray k }) ∈ news ∧ ps.length = rows.length ∧
    ∀ (i : Nat) (row : List (List Nat × List Nat)), rows[i]? = some row → ∃ b, ps[i]? = some b ∧ RowAt news b row
/-- what is mailed for these rows -/
noncomputable def mailOf (rows : List (List (List Nat × List Nat))) : List Nat := E7 (quoted (prepInt (KStt.codes (Txt.join (Str.ofString "") (rows.flatten.map fun p => strOf p.1)))).cps.toList)
noncomputable def textOf (rows : List (List (List Nat × List Nat))) : Str := Txt.join (Str.ofString "") (rows.flatten.map fun p => strOf p.1)
theorem flat_len (rows : List (List (List Nat × List Nat))) (h4 : ∀ row ∈ rows, row.length ≤ 4) : rows.flatten.length ≤ 4 * rows.length := by
  induction rows with
  | nil => simp
  | cons r rs ih =>
    have h1 := h4 r (.head _)
    have h2 := ih fun x hx => h4 x (.tail _ hx)
    simp only [List.flatten_cons, List.length_append, List.length_cons]
    omega
theorem sum_le (l : List (List Nat × List Nat)) (h1 : ∀ p ∈ l, p.1.length ≤ 1) : ((l.map fun p => strOf p.1).map (·.length)).sum ≤ l.length := by
  induction l with
  | nil => simp
  | cons p r ih =>
    have a := h1 p (.head _)
    have b := ih fun x hx => h1 x (.tail _ hx)
    have c : (strOf p.1).length = p.1.length := rfl
    simp only [List.map_cons, List.sum_cons, List.length_cons]
    omega
theorem text_len (rows : List (List (List Nat × List Nat))) (hx : rows.length ≤ 8) (h4 : ∀ row ∈ rows, row.length ≤ 4) (h1 : ∀ p ∈ rows.flatten, p.1.length ≤ 1) : (textOf rows).length ≤ 32 := by
  have a := flat_len rows h4
  have b := sum_le rows.flatten h1
  have c := StrLaws.join_length_le (Str.ofString "") (rows.flatten.map fun p => strOf p.1)
  have d : textOf rows = Str.join (Str.ofString "") (rows.flatten.map fun p => strOf p.1) := StrLaws.glued_eq_join _ _
  have e : (Str.ofString "").length = 0 := by decide +kernel
  rw [d]; rw [e] at c; omega
set_option pp.deepTerms.threshold 8
theorem spec_mail (w : World) (mean mg mb) (a0 : Addr) (rows : List (List (List Nat × List Nat))) (news) (hr : RowsAt news a0 rows) (hx : rows.length ≤ 8) (h4 : ∀ row ∈ rows, row.length ≤ 4) (h1 : ∀ p ∈ rows.flatten, p.1.length ≤ 1) :
    Spec w mean mg mb 6 180 [.ref a0] news (fun tl r => (∃ tk, r = .str ⟨(mailOf rows).toArray⟩ tk) ∧ ∃ D o, tl = [(D, o)]) := by
  unfold Spec
  intro dp un gd cn cs a ccd cl outer A₀ base h₀ L m s Q E B F X N T hk hd hu hret
  simp only [recursionLimit] at hd
  have hcl := cLine_is
  refine wpAny_call ?_
  k_dflt cell_enter
  k_steps
  rename Fr _ _ _ _ => F1
  rename News _ _ _ _ => N1
  obtain ⟨ps, kk, hm, hlen, hitem⟩ := hr
  obtain ⟨spss, q1, q2, q3⟩ := rows_values (fun p hp => (N1 p hp).1) rows ps hlen hitem (fun x hx => Nat.le_trans (h4 x hx) (by decide))
  with_unfolding_all refine comp_nest F1 N1 (ld F1 rfl ⟨rfl, rfl⟩) ⟨_, (N1 _ hm).1, rfl, kk, rfl⟩ (by decide) (by decide) rfl (by decide) rfl (by decide) (by decide) rfl rfl (by decide) (by decide) (by decide) rfl (fun _ => rfl) q3 q1 ?_ ?_ ?_
  · have e : spss.flatten.length = (rows.flatten.map fun p => strOf p.1).length := q2.length
    have := flat_len rows h4
    rw [e, List.length_map]; omega
  · omega
  intro h2 tk2 D F2 N2
  k_steps
  refine join_list (ys := rows.flatten.map fun p => strOf p.1) ⟨_, (N2 _ (.head _)).1, rfl, _, rfl⟩ (by simpa using q2) ?_ ?_
  · have a := flat_len rows h4
    have b := sum_le rows.flatten h1
    rw [show (Str.ofString "").length = 0 from by decide +kernel]
    omega
  have hp1 : (prepInt (KStt.codes (textOf rows))).length ≤ 1000 := by
    have a := prep_len (KStt.codes (textOf rows))
    have b := text_len rows hx h4 h1
    rw [KStt.codes_length] at a
    omega
  have hp2 : (quoted (prepInt (KStt.codes (textOf rows))).cps.toList).length ≤ 1000 := by
    have a := prep_len (KStt.codes (textOf rows))
    have b := text_len rows hx h4 h1
    rw [KStt.codes_length] at a
    have c := dots_len true (crlf false (prepInt (KStt.codes (textOf rows))).cps.toList)
    have d := crlf_len false (prepInt (KStt.codes (textOf rows))).cps.toList
    have e : (prepInt (KStt.codes (textOf rows))).cps.toList.length = (prepInt (KStt.codes (textOf rows))).length := by simp [Str.length]
    unfold quoted
    omega
  intro t7 k7
  k_steps
  refine spec_use (spec_prep w mean mg mb _ _ _ (Nat.le_trans (text_len rows hx h4 h1) (by decide))) (by assumption) (by assumption) (by assumption) (by assumption) (by assumption) rfl (show dp + 1 + 4 < recursionLimit by simp only [recursionLimit]; omega) (show un + 3 + 8 * 4 < cLine by omega) ?_
  intro r' tl' h' tk' F' N' R'
  obtain ⟨⟨_, hr1⟩, hr2⟩ := R'
  subst hr1 hr2
  k_steps
  refine spec_use (spec_quote w mean mg mb _ _ _ hp1) (by assumption) (by assumption) (by assumption) (by assumption) (by assumption) rfl (show dp + 1 + 3 < recursionLimit by simp only [recursionLimit]; omega) (show un + 3 + 8 * 3 < cLine by omega) ?_
  intro r' tl' h' tk' F' N' R'
  obtain ⟨⟨_, hr1⟩, hr2⟩ := R'
  subst hr1 hr2
  k_steps
  refine spec_use (spec_escape w mean mg mb _ _ _ hp2) (by assumption) (by assumption) (by assumption) (by assumption) (by assumption) rfl (show dp + 1 + 3 < recursionLimit by simp only [recursionLimit]; omega) (show un + 3 + 8 * 3 < cLine by omega) ?_
  intro r' tl' h' tk' F' N' R'
  obtain ⟨⟨_, hr1⟩, hr2⟩ := R'
  subst hr1 hr2
  k_steps
  exact hret _ [_] _ _ (by assumption) (subNews (by assumption) (fun p hp => by simpa using hp)) ⟨⟨_, rfl⟩, _, _, rfl⟩
end Mine
end
section
theorem Mine.fresh_WLetter2 : True := by w_top off; trivial
set_option maxRecDepth 100000
set_option maxHeartbeats 8000000
set_option linter.unusedVariables false
namespace Mine
open PySem PySem.W PySem.Calls PyProof.Rows
example : (fun P => KK P) = KK ∧ PySem.Challenge.rw_st0021_01 = PySem.Challenge.rw_st0021_01 := by k_fill; exact ⟨rfl, rfl⟩
noncomputable def letterStarts : List Int := [65, 119808, 119860, 119912, 120016, 120172, 120224, 120276, 120328, 120380, 120432]
noncomputable def letterOf (n : Int) : Int := letterStarts.getD (Int.fmod (Int.fdiv n 26) 11).toNat 0 + Int.fmod n 26
theorem letter_bound : ∀ i : Nat, i < 11 → 0 ≤ letterStarts.getD i 0 ∧ letterStarts.getD i 0 ≤ 120432 := by decide +kernel
theorem fmod_bounds (n : Int) (k : Int) (h : 0 < k) : 0 ≤ Int.fmod n k ∧ Int.fmod n k < k := by
  rw [Int.fmod_eq_emod_of_nonneg _ (by omega)]; exact ⟨Int.emod_nonneg _ (by omega), Int.emod_lt_of_pos _ h⟩
set_option pp.deepTerms.threshold 6
theorem spec_letter (w : World) (mean mg mb) (n : Int) (t : Tok) (news) (h0 : 0 ≤ n) : Spec w mean mg mb 2 140 [.int n t] news (RSign [(letterOf n).toNat] [(97 + Int.fmod n 26).toNat]) := by
  unfold Spec
  intro dp un gd cn cs a ccd cl outer A₀ base h₀ L m s Q E B F X N T hk hd hu hret
  refine wpAny_call ?_
  k_dflt cell_enter
  k_steps
  · have h1 := fmod_bounds (Int.fdiv n 26) 11 (by omega)
    have h2 := fmod_bounds n 26 (by omega)
    have hb := letter_bound (Int.fmod (Int.fdiv n 26) 11).toNat (by omega)
    have hl : letterOf n = letterStarts.getD (Int.fmod (Int.fdiv n 26) 11).toNat 0 + Int.fmod n 26 := rfl
    refine chr_of_range (i := letterOf n) (by omega) (by omega) ?_
    k_steps
    exact hret _ [_] _ _ (by assumption) (subNews (by assumption) (fun p hp => by rcases List.mem_cons.mp hp with rfl | hp <;> repeat (first | exact hp | exact List.Mem.head _ | apply List.Mem.tail))) ⟨_, _, _, rfl, rfl⟩
end Mine
end
section
theorem Mine.fresh_WPlain2 : True := by w_top off; trivial
set_option maxRecDepth 100000
set_option maxHeartbeats 8000000
set_option linter.unusedVariables false
namespace Mine
open PySem PySem.W PySem.Calls PyProof.Rows
example : (fun P => KK P) = KK ∧ PySem.Challenge.rw_st0021_01 = PySem.Challenge.rw_st0021_01 := by k_fill; exact ⟨rfl, rfl⟩
noncomputable def plainCodes : List Int := (rangeInts 97 1 26).map (fun a => a) ++ [172, 174, 846, 848, 6149, 6151, 6154, 6158, 8202, 8206, 8287, 8289] ++ [65023, 65040, 65278, 65280]
noncomputable def plainOf (n : Int) : Int := plainCodes.getD (Int.fmod n 42).toNat 0
theorem plain_bound : ∀ i : Nat, i < 42 → 0 ≤ plainCodes.getD i 0 ∧ plainCodes.getD i 0 ≤ 1114111 := by decide +kernel
theorem fmod_bounds' (n : Int) (k : Int) (h : 0 < k) : 0 ≤ Int.fmod n k ∧ Int.fmod n k < k := by
  rw [Int.fmod_eq_emod_of_nonneg _ (by omega)]; exact ⟨Int.emod_nonneg _ (by omega), Int.emod_lt_of_pos _ h⟩
set_option pp.deepTerms.threshold 6
theorem spec_plain (w : World) (mean mg mb) (n : Int) (t : Tok) (news) (h0 : 0 ≤ n) : Spec w mean mg mb 2 147 [.int n t] news (RSign [(plainOf n).toNat] [(plainOf n).toNat]) := by
  unfold Spec
  intro dp un gd cn cs a ccd cl outer A₀ base h₀ L m s Q E B F X N T hk hd hu hret
  refine wpAny_call ?_
  k_dflt cell_enter
  k_steps
  · have h1 := fmod_bounds' n 42 (by omega)
    have hb := plain_bound (Int.fmod n 42).toNat (by omega)
    refine chr_of_range (i := plainOf n) hb.1 hb.2 ?_
    k_steps
    refine chr_of_range (i := plainOf n) hb.1 hb.2 ?_
    k_steps
    exact hret _ [_] _ _ (by assumption) (subNews (by assumption) (fun p hp => by rcases List.mem_cons.mp hp with rfl | hp <;> repeat (first | exact hp | exact List.Mem.head _ | apply List.Mem.tail))) ⟨_, _, _, rfl, rfl⟩
end Mine
end
section
theorem Mine.fresh_WWord2 : True := by w_top off; trivial
set_option maxRecDepth 100000
set_option maxHeartbeats 8000000
set_option linter.unusedVariables false
namespace Mine
open PySem PySem.W PySem.Calls PyProof.Rows
example : (fun P => KK P) = KK ∧ PySem.Challenge.rw_st0021_01 = PySem.Challenge.rw_st0021_01 := by k_fill; exact ⟨rfl, rfl⟩
noncomputable def wordCodes : List Int := [223, 64256, 64257, 64258, 64261, 64262, 8470, 8360, 8480, 8482, 13184, 13188, 64259, 64260, 8481, 13169, 13201, 13202, 13226]
noncomputable def wordTexts : List (List Nat) := [[115, 115], [102, 102], [102, 105], [102, 108], [115, 116], [115, 116], [110, 111], [114, 115], [115, 109], [116, 109], [112, 97], [107, 97], [102, 102, 105], [102, 102, 108], [116, 101, 108], [104, 112, 97], [107, 104, 122], [109, 104, 122], [107, 112, 97]]
noncomputable def wordOf (n : Int) : Int := wordCodes.getD (Int.fmod n 19).toNat 0
noncomputable def wordText (n : Int) : List Nat := wordTexts.getD (Int.fmod n 19).toNat []
theorem word_bound : ∀ i : Nat, i < 19 → 0 ≤ wordCodes.getD i 0 ∧ wordCodes.getD i 0 ≤ 1114111 := by decide +kernel
theorem fmod_bounds'' (n : Int) (k : Int) (h : 0 < k) : 0 ≤ Int.fmod n k ∧ Int.fmod n k < k := by
  rw [Int.fmod_eq_emod_of_nonneg _ (by omega)]; exact ⟨Int.emod_nonneg _ (by omega), Int.emod_lt_of_pos _ h⟩
noncomputable def AllPick (news : List (Addr × Obj)) (P : Nat → Obj → Prop) : Nat → List Value → Prop
  | _, [] => True
  | i, v :: r => (∃ a o, v = .ref a ∧ (a, o) ∈ news ∧ P i o) ∧ AllPick news P (i + 1) r
theorem AllPick.at {news : List (Addr × Obj)} {P : Nat → Obj → Prop} : ∀ {vs : List Value} {i k : Nat}, AllPick news P i vs → k < vs.length → ∃ a o, vs[k]? = some (.ref a) ∧ (a, o) ∈ news ∧ P (i + k) o
  | [], i, k, _, h => absurd h (Nat.not_lt_zero _)
  | v :: r, i, 0, ⟨⟨a, o, e, hm, hp⟩, _⟩, _ => ⟨a, o, by rw [e]; rfl, hm, hp⟩
  | v :: r, i, k + 1, ⟨_, h⟩, hk => by
    obtain ⟨a, o, e, hm, hp⟩ := AllPick.at h (Nat.lt_of_succ_lt_succ hk)
    exact ⟨a, o, e, hm, by rw [show i + (k + 1) = i + 1 + k by omega]; exact hp⟩
theorem item_at {prog : Program} {w : World} {A : Around} {E : Value → Shared → Prop} {s : Shared} {value slice : PySem.Expr} {l : Addr} {vs : List Value} {k : Int} {u : Tok} {v : Value} {Q : Value → Shared → Prop}
    (hl : s.heap.IsList l vs.toArray) (h0 : 0 ≤ k) (hhi : k < 2 ^ 63) (hx : vs[k.toNat]? = some v) (h : Q v s)
    (hs : subscripted slice false (.ref l) (.int k u) = operate [.ref l, .int k u] (getItem (.ref l) (.int k u)) := by with_unfolding_all rfl) :
    wpAny (model prog w) A (subscriptTail value slice (.ref l) (.int k u)) Q E s :=
  tail_any hl.typeIs slot_list_getitem.lookup (wpAny_getItem_list hl h0 hhi (by simpa using hx) h) hs
theorem item_pick {prog : Program} {w : World} {A : Around} {E : Value → Shared → Prop} {s : Shared} {value slice : PySem.Expr} {h₀ : Heap} {L l : Addr} {vs : List Value} {k : Int} {u : Tok} {nn : Nat} {news : List (Addr × Obj)} {Q : Value → Shared → Prop} (P : Nat → Obj → Prop)
    (N : News h₀ L s.heap news) (hm : (l, W.listOf vs.toArray nn) ∈ news) (hp : AllPick news P 0 vs) (h0 : 0 ≤ k) (hk : k < vs.length) (hb : k < 1000) (h : ∀ a o, (a, o) ∈ news → P k.toNat o → Q (.ref a) s)
    (hs : subscripted slice false (.ref l) (.int k u) = operate [.ref l, .int k u] (getItem (.ref l) (.int k u)) := by with_unfolding_all rfl) :
    wpAny (model prog w) A (subscriptTail value slice (.ref l) (.int k u)) Q E s := by
  obtain ⟨a, o, e, hm', hP⟩ := hp.at (k := k.toNat) (by omega)
  exact item_at (N.isList hm) h0 (by omega) e (h a o hm' (by simpa using hP)) hs
set_option pp.deepTerms.threshold 6
theorem spec_word (w : World) (mean mg mb) (n : Int) (t : Tok) (news) (h0 : 0 ≤ n) : Spec w mean mg mb 2 154 [.int n t] news (RSign [(wordOf n).toNat] (wordText n)) := by
  unfold Spec
  intro dp un gd cn cs a ccd cl outer A₀ base h₀ L m s Q E B F X N T hk hd hu hret
  refine wpAny_call ?_
  k_dflt cell_enter
  k_steps
  · have h1 := fmod_bounds'' n 19 (by omega)
    have hb := word_bound (Int.fmod n 19).toNat (by omega)
    rename News _ _ _ _ => N9
    refine item_pick (fun i o => ∃ t1 t2, o = ({ cls := .type "tuple", data := .seq #[.int (wordCodes.getD i 0) t1, .str ⟨(wordTexts.getD i []).toArray⟩ t2] } : Obj)) N9 (.head _) ?hp h1.1 h1.2 (by omega) ?_
    case hp => repeat (first | exact trivial | refine ⟨⟨_, _, rfl, by repeat (first | exact List.Mem.head _ | apply List.Mem.tail), _, _, rfl⟩, ?_⟩)
    intro a o hm ho
    obtain ⟨t1, t2, rfl⟩ := ho
    k_steps
    exact hret _ [_] _ _ (by assumption) (subNews (by assumption) (fun p hp => by rcases List.mem_cons.mp hp with rfl | hp <;> repeat (first | exact hp | exact List.Mem.head _ | apply List.Mem.tail))) ⟨_, _, _, rfl, rfl⟩
end Mine
end
section
theorem Mine.fresh_WSign : True := by w_top off; trivial
set_option maxRecDepth 100000
set_option maxHeartbeats 8000000
set_option linter.unusedVariables false
namespace Mine
open PySem PySem.W PySem.Calls PyProof.Rows
example : (fun P => KK P) = KK ∧ PySem.Challenge.rw_st0021_01 = PySem.Challenge.rw_st0021_01 := by k_fill; exact ⟨rfl, rfl⟩
theorem fdiv_nonneg' {n k : Int} (h : 0 ≤ n) (hk : 0 < k) : 0 ≤ Int.fdiv n k := by
  rw [Int.fdiv_eq_ediv_of_nonneg _ (by omega)]; exact Int.ediv_nonneg h (by omega)
noncomputable def menu2 : List (List Nat × List Nat) := [([13], [13]), ([10], [10])]
noncomputable def menu5 : List (List Nat × List Nat) := [([38], [38, 97, 109, 112, 59]), ([60], [38, 108, 116, 59]), ([62], [38, 103, 116, 59]), ([34], [38, 113, 117, 111, 116, 59]), ([9], [38, 35, 48, 57, 59])]
noncomputable def signOf (n : Int) : List Nat × List Nat :=
  if Int.fmod n 8 < 2 then ([46], [46])
  else if Int.fmod n 8 = 2 then ([(nothingOf (Int.fdiv n 8)).toNat], [])
  else if Int.fmod n 8 < 5 then menu2.getD (Int.fmod n 8 - 3).toNat ([], [])
  else if Int.fmod n 8 = 5 then menu5.getD (Int.fmod (Int.fdiv n 8) 5).toNat ([], [])
  else if Int.fmod n 8 = 6 then
    (if Int.fmod (Int.fdiv n 8) 2 = 0 then ([(letterOf (Int.fdiv (Int.fdiv n 8) 2)).toNat], [(97 + Int.fmod (Int.fdiv (Int.fdiv n 8) 2) 26).toNat])
     else ([(wordOf (Int.fdiv (Int.fdiv n 8) 2)).toNat], wordText (Int.fdiv (Int.fdiv n 8) 2)))
  else if Int.fmod (Int.fdiv n 8) 2 = 1 then ([(plainOf (Int.fdiv (Int.fdiv n 8) 2)).toNat], [(plainOf (Int.fdiv (Int.fdiv n 8) 2)).toNat])
  else ([(19968 + Int.fmod (Int.fdiv (Int.fdiv n 8) 2) 20902).toNat], [(19968 + Int.fmod (Int.fdiv (Int.fdiv n 8) 2) 20902).toNat])
set_option pp.deepTerms.threshold 6
theorem spec_sign (w : World) (mean mg mb) (n : Int) (t : Tok) (news) (h0 : 0 ≤ n) : Spec w mean mg mb 4 168 [.int n t] news (RSign (signOf n).1 (signOf n).2) := by
  have e1 := fdiv_nonneg' h0 (show (0 : Int) < 8 by omega)
  have e2 := fdiv_nonneg' e1 (show (0 : Int) < 2 by omega)
  have b1 := fmod_bounds n 8 (by omega)
  have b2 := fmod_bounds (Int.fdiv n 8) 5 (by omega)
  have b3 := fmod_bounds (Int.fdiv n 8) 2 (by omega)
  have b4 := fmod_bounds (Int.fdiv (Int.fdiv n 8) 2) 20902 (by omega)
  unfold Spec
  intro dp un gd cn cs a ccd cl outer A₀ base h₀ L m s Q E B F X N T hk hd hu hret
  refine wpAny_call ?_
  k_dflt cell_enter
  k_steps
  · have e : signOf n = ([46], [46]) := by unfold signOf; rw [if_pos (by assumption)]
    rw [e] at hret
    exact hret _ [_] _ _ (by assumption) (subNews (by assumption) (fun p hp => by rcases List.mem_cons.mp hp with rfl | hp <;> repeat (first | exact hp | exact List.Mem.head _ | apply List.Mem.tail))) ⟨_, _, _, rfl, rfl⟩
  · have e : signOf n = ([(nothingOf (Int.fdiv n 8)).toNat], []) := by unfold signOf; rw [if_neg (by assumption), if_pos (by assumption)]
    rw [e] at hret
    refine spec_use (spec_nothing w mean mg mb _ _ _ (by assumption)) (by assumption) (by assumption) (by assumption) (by assumption) (by assumption) rfl (show dp + 1 + 2 < recursionLimit by omega) (show un + 3 + 8 * 2 < cLine by omega) ?_
    intro r' tl' h' tk' F' N' R'
    obtain ⟨_, hr1, hr2⟩ := R'
    subst hr1 hr2
    simp only [List.nil_append] at N'
    k_steps
    exact hret _ [_] _ _ (by assumption) (subNews (by assumption) (fun p hp => by rcases List.mem_cons.mp hp with rfl | hp <;> repeat (first | exact hp | exact List.Mem.head _ | apply List.Mem.tail))) ⟨_, _, _, rfl, rfl⟩
  · have e : signOf n = menu2.getD (Int.fmod n 8 - 3).toNat ([], []) := by unfold signOf; rw [if_neg (by assumption), if_neg (by assumption), if_pos (by assumption)]
    rw [e] at hret
    rename News _ _ _ _ => N9
    refine item_pick (fun i o => ∃ t1 t2, o = pairO (menu2.getD i ([], [])).1 (menu2.getD i ([], [])).2 t1 t2) N9 (.head _) ?hp (by omega) (show Int.fmod n 8 - 3 < 2 by omega) (by omega) ?_
    case hp => repeat (first | exact trivial | refine ⟨⟨_, _, rfl, by repeat (first | exact List.Mem.head _ | apply List.Mem.tail), _, _, rfl⟩, ?_⟩)
    intro a o hm ho
    obtain ⟨t1, t2, rfl⟩ := ho
    k_steps
    exact hret _ [_] _ _ (by assumption) (subNews (by assumption) (fun p hp => by rcases List.mem_cons.mp hp with rfl | hp <;> repeat (first | exact hp | exact hm | exact List.Mem.head _ | apply List.Mem.tail))) ⟨_, _, _, rfl, rfl⟩
  · have e : signOf n = menu5.getD (Int.fmod (Int.fdiv n 8) 5).toNat ([], []) := by unfold signOf; rw [if_neg (by assumption), if_neg (by assumption), if_neg (by assumption), if_pos (by assumption)]
    rw [e] at hret
    rename News _ _ _ _ => N9
    refine item_pick (fun i o => ∃ t1 t2, o = pairO (menu5.getD i ([], [])).1 (menu5.getD i ([], [])).2 t1 t2) N9 (.head _) ?hp b2.1 b2.2 (by omega) ?_
    case hp => repeat (first | exact trivial | refine ⟨⟨_, _, rfl, by repeat (first | exact List.Mem.head _ | apply List.Mem.tail), _, _, rfl⟩, ?_⟩)
    intro a o hm ho
    obtain ⟨t1, t2, rfl⟩ := ho
    k_steps
    exact hret _ [_] _ _ (by assumption) (subNews (by assumption) (fun p hp => by rcases List.mem_cons.mp hp with rfl | hp <;> repeat (first | exact hp | exact hm | exact List.Mem.head _ | apply List.Mem.tail))) ⟨_, _, _, rfl, rfl⟩
  · have e : signOf n = ([(letterOf (Int.fdiv (Int.fdiv n 8) 2)).toNat], [(97 + Int.fmod (Int.fdiv (Int.fdiv n 8) 2) 26).toNat]) := by unfold signOf; rw [if_neg (by assumption), if_neg (by assumption), if_neg (by assumption), if_neg (by assumption), if_pos (by assumption), if_pos (by assumption)]
    rw [e] at hret
    refine spec_use (spec_letter w mean mg mb _ _ _ (by assumption)) (by assumption) (by assumption) (by assumption) (by assumption) (by assumption) rfl (show dp + 1 + 2 < recursionLimit by omega) (show un + 3 + 8 * 2 < cLine by omega) ?_
    intro r' tl' h' tk' F' N' R'
    obtain ⟨_, _, _, hr1, hr2⟩ := R'
    subst hr1 hr2
    k_steps
    exact hret _ [_] _ _ (by assumption) (subNews (by assumption) (fun p hp => by rcases List.mem_cons.mp hp with rfl | hp <;> repeat (first | exact hp | exact List.Mem.head _ | apply List.Mem.tail))) ⟨_, _, _, rfl, rfl⟩
  · have e : signOf n = ([(wordOf (Int.fdiv (Int.fdiv n 8) 2)).toNat], wordText (Int.fdiv (Int.fdiv n 8) 2)) := by unfold signOf; rw [if_neg (by assumption), if_neg (by assumption), if_neg (by assumption), if_neg (by assumption), if_pos (by assumption), if_neg (by assumption)]
    rw [e] at hret
    refine spec_use (spec_word w mean mg mb _ _ _ (by assumption)) (by assumption) (by assumption) (by assumption) (by assumption) (by assumption) rfl (show dp + 1 + 2 < recursionLimit by omega) (show un + 3 + 8 * 2 < cLine by omega) ?_
    intro r' tl' h' tk' F' N' R'
    obtain ⟨_, _, _, hr1, hr2⟩ := R'
    subst hr1 hr2
    k_steps
    exact hret _ [_] _ _ (by assumption) (subNews (by assumption) (fun p hp => by rcases List.mem_cons.mp hp with rfl | hp <;> repeat (first | exact hp | exact List.Mem.head _ | apply List.Mem.tail))) ⟨_, _, _, rfl, rfl⟩
  · have e : signOf n = ([(plainOf (Int.fdiv (Int.fdiv n 8) 2)).toNat], [(plainOf (Int.fdiv (Int.fdiv n 8) 2)).toNat]) := by unfold signOf; rw [if_neg (by assumption), if_neg (by assumption), if_neg (by assumption), if_neg (by assumption), if_neg (by assumption), if_pos (by assumption)]
    rw [e] at hret
    refine spec_use (spec_plain w mean mg mb _ _ _ (by assumption)) (by assumption) (by assumption) (by assumption) (by assumption) (by assumption) rfl (show dp + 1 + 2 < recursionLimit by omega) (show un + 3 + 8 * 2 < cLine by omega) ?_
    intro r' tl' h' tk' F' N' R'
    obtain ⟨_, _, _, hr1, hr2⟩ := R'
    subst hr1 hr2
    k_steps
    exact hret _ [_] _ _ (by assumption) (subNews (by assumption) (fun p hp => by rcases List.mem_cons.mp hp with rfl | hp <;> repeat (first | exact hp | exact List.Mem.head _ | apply List.Mem.tail))) ⟨_, _, _, rfl, rfl⟩
  · have e : signOf n = ([(19968 + Int.fmod (Int.fdiv (Int.fdiv n 8) 2) 20902).toNat], [(19968 + Int.fmod (Int.fdiv (Int.fdiv n 8) 2) 20902).toNat]) := by unfold signOf; rw [if_neg (by assumption), if_neg (by assumption), if_neg (by assumption), if_neg (by assumption), if_neg (by assumption), if_neg (by assumption)]
    rw [e] at hret
    exact hret _ [_] _ _ (by assumption) (subNews (by assumption) (fun p hp => by rcases List.mem_cons.mp hp with rfl | hp <;> repeat (first | exact hp | exact List.Mem.head _ | apply List.Mem.tail))) ⟨_, _, _, rfl, rfl⟩
end Mine
end
section
set_option maxRecDepth 100000
set_option maxHeartbeats 8000000
set_option linter.unusedVariables false
namespace Mine
open PySem PySem.W PySem.Calls PyProof.Rows
section
variable {prog : Program} {w : World} {A : Around}
/-- one turn of a comprehension over a list: what its element makes joins the ledger -/
noncomputable def CTurn (prog : Program) (w : World) (A : Around) (h₀ : Heap) (L : Addr) (m : Str → Option Value) (env : Env) (elt : Expr) (x : Str) (scope : Scope) (cl : List (Str × Addr)) (s : Shared) (its : Array Value)
    (J : Nat → List Value → List (Addr × Obj) → Prop) : Prop :=
  ∀ (i : Nat) (v : Value) (h : Heap) (tk : Nat) (I : Addr) (oI : Obj) (C : Addr) (oC : Obj) (D : Addr) (m₂ : Str → Option Value) (ys : List Value) (nw : List (Addr × Obj)) (E' : Value → Shared → Prop),
    its[i]? = some v → J i ys nw → oI.cls = .type "list_iterator" → LCg.NsObj oC m₂ → m₂ x = some v → Fr h₀ L h m → News h₀ L h ((I, oI) :: (C, oC) :: (D, LCg.lst ys) :: nw) →
    LCg.Off3 I C D nw →
    wpAny (model prog w) A (eval elt (compEnvC scope cl C env)) (fun y s' => ∃ h' tk' nw', s' = { s with heap := h', toks := tk' } ∧ Fr h₀ L h' m ∧ News h₀ L h' ((I, oI) :: (C, oC) :: (D, LCg.lst ys) :: nw') ∧
      LCg.Off3 I C D nw' ∧ J (i + 1) (ys ++ [y]) nw') E' { s with heap := h, toks := tk }
/-- a comprehension's source: a list in the ledger, what holds from turn to turn, and the end -/
noncomputable def CSrc (prog : Program) (w : World) (A : Around) (h₀ : Heap) (L : Addr) (m : Str → Option Value) (env : Env) (elt : Expr) (x : Str) (scope : Scope) (cl : List (Str × Addr)) (Q : Value → Shared → Prop) (xv : Value) (s₁ : Shared) : Prop :=
  ∃ (ax : Addr) (its : Array Value) (k : Nat) (news : List (Addr × Obj)) (J : Nat → List Value → List (Addr × Obj) → Prop), xv = .ref ax ∧ Fr h₀ L s₁.heap m ∧ News h₀ L s₁.heap news ∧
      its.size ≤ sizeLine ∧ J 0 [] news ∧ (∀ i ys nw, J i ys nw → (ax, ({ cls := .type "list", data := .seq its k } : Obj)) ∈ nw) ∧ CTurn prog w A h₀ L m env elt x scope cl s₁ its J ∧
      (∀ D h tk ys nw, ys.length = its.size → J its.size ys nw → Fr h₀ L h m → News h₀ L h ((D, LCg.lst ys) :: nw) → LCg.Off1 D nw → (∀ p ∈ news, @LT.lt Nat _ p.1 D) → Q (.ref D) { s₁ with heap := h, toks := tk })
theorem comp_calls {elt iter : Expr} {x : Str} {px : Pos} {scope : Scope} {cl : List (Str × Addr)} {pos : Pos} {env : Env} {h₀ : Heap} {L : Addr} {m : Str → Option Value} {Q E : Value → Shared → Prop} {s : Shared}
    (F₀ : Fr h₀ L s.heap m) (hclos : closureFor scope env = pure cl) (hcell : ∀ y ∈ scope.names, y.2 ≠ .cell) (hkind : scope.kind = .function)
    (hnames : ∀ y ∈ scope.names, y.2 = .local → scope.names.lookup y.1 = some .local) (hx : scope.names.lookup x = some .local) (hh : A.handled = none)
    (hs : ∀ x, foldedSetIterable iter env x = pure x)
    (h : wpAny (model prog w) A (eval iter env) (CSrc prog w A h₀ L m env elt x scope cl Q) E s) :
    wpAny (model prog w) A (eval (.ListComp elt [⟨.Name x px, iter, [], 0⟩] scope pos) env) Q E s := by
  rw [eval_ListComp]
  refine wpAny_comprehension_free (use := none) rfl hs hclos hkind hnames (wpAny_mono h (fun xv s₂ h₂ => ?_) fun _ _ e => e)
  obtain ⟨ax, its, k, news, J, rfl, F, N, hsz, J0, Jm, turn, fin⟩ := h₂
  have hl : s₂.heap.IsList ax its := ⟨_, (N _ (Jm _ _ _ J0)).1, rfl, _, rfl⟩
  have hlt : ax < s₂.heap.objs.size := by obtain ⟨_, e, _⟩ := hl; exact Heap.lt_size e
  refine wpAny_pyIter_list hl ?_
  refine wpAny_newObj_type (wpAny_newFunctionEnv hcell (by intro y hy; simp at hy) (fun h₁ hns₁ hsb₁ => ?_) hkind)
  dsimp only at hns₁ hsb₁ ⊢
  have z1 : (s₂.heap.push { cls := .type "list_iterator", data := .fields #[.ref ax, .int 0 0] }).objs.size = s₂.heap.objs.size + 1 := Heap.size_push ..
  have z2 : ((s₂.heap.push { cls := .type "list_iterator", data := .fields #[.ref ax, .int 0 0] }).push { cls := .type "list", data := .seq ([] : List Value).toArray }).objs.size = s₂.heap.objs.size + 2 := by rw [Heap.size_push, z1]
  have hIo : (s₂.heap.push { cls := .type "list_iterator", data := .fields #[.ref ax, .int 0 0] }).get? s₂.heap.objs.size = some { cls := .type "list_iterator", data := .fields #[.ref ax, .int 0 0] } := Heap.get?_push_size _ rfl
  have hDo := Heap.get?_push_size (s₂.heap.push { cls := .type "list_iterator", data := .fields #[.ref ax, .int 0 0] }) (o := { cls := .type "list", data := .seq ([] : List Value).toArray }) rfl
  have hIo2 := Heap.get?_push_of_some { cls := .type "list", data := .seq ([] : List Value).toArray } hIo
  have up : ∀ c o, s₂.heap.get? c = some o → ((s₂.heap.push { cls := .type "list_iterator", data := .fields #[.ref ax, .int 0 0] }).push { cls := .type "list", data := .seq ([] : List Value).toArray }).get? c = some o := fun c o e => Heap.get?_push_of_some _ (Heap.get?_push_of_some _ e)
  generalize hH1 : s₂.heap.push { cls := .type "list_iterator", data := .fields #[.ref ax, .int 0 0] } = H1 at *
  generalize hH2 : H1.push { cls := .type "list", data := .seq ([] : List Value).toArray } = H2 at *
  have c1 : @LT.lt Nat _ s₂.heap.objs.size H1.objs.size := by rw [z1]; exact Nat.lt_succ_self _
  have c2 : @LT.lt Nat _ H1.objs.size H2.objs.size := by rw [z1, z2]; exact Nat.lt_succ_self _
  have c3 : @LT.lt Nat _ s₂.heap.objs.size H2.objs.size := Nat.lt_trans c1 c2
  have old : ∀ (c : Addr) o, s₂.heap.get? c = some o → h₁.get? c = some o := fun c o e => hsb₁.extBut c o (Nat.ne_of_lt (Nat.lt_trans (Heap.lt_size e) c3)) (Heap.get?_push_of_some _ (up c o e))
  have hI1 : h₁.IsListIter s₂.heap.objs.size ax 0 := ⟨_, hsb₁.extBut _ _ (Nat.ne_of_lt c3) (Heap.get?_push_of_some _ hIo2), rfl, rfl⟩
  have hacc : h₁.get? H1.objs.size = some (LCg.lst []) := hsb₁.extBut _ _ (Nat.ne_of_lt c2) (Heap.get?_push_of_some _ hDo)
  have hLlt : @LT.lt Nat _ L s₂.heap.objs.size := F.ns.lt
  have fresh₀ : ∀ a : Addr, @LE.le Nat _ s₂.heap.objs.size a → h₀.get? a = none := fun a ha => by
    cases e : h₀.get? a with
    | none => rfl
    | some o => exact absurd (Heap.lt_size (F.keep a o e)) (Nat.not_lt.mpr ha)
  have I₀ := fresh₀ _ (Nat.le_refl _)
  have D₀ := fresh₀ _ (Nat.le_of_lt c1)
  have C₀ := fresh₀ _ (Nat.le_of_lt c3)
  have LI : L ≠ s₂.heap.objs.size := Nat.ne_of_lt hLlt
  have LD : L ≠ H1.objs.size := Nat.ne_of_lt (Nat.lt_trans hLlt c1)
  have LC : L ≠ H2.objs.size := Nat.ne_of_lt (Nat.lt_trans hLlt c3)
  have IC : s₂.heap.objs.size ≠ H2.objs.size := Nat.ne_of_lt c3
  have ID : s₂.heap.objs.size ≠ H1.objs.size := Nat.ne_of_lt c1
  have DC : H1.objs.size ≠ H2.objs.size := Nat.ne_of_lt c2
  have off₀ : LCg.Off3 s₂.heap.objs.size H2.objs.size H1.objs.size news := LCg.Off3.of fun p hp =>
    ⟨Nat.ne_of_lt (Heap.lt_size (N p hp).1), Nat.ne_of_lt (Nat.lt_trans (Heap.lt_size (N p hp).1) c3), Nat.ne_of_lt (Nat.lt_trans (Heap.lt_size (N p hp).1) c1)⟩
  have ordD : ∀ p ∈ news, @LT.lt Nat _ p.1 H1.objs.size := fun p hp => Nat.lt_trans (Heap.lt_size (N p hp).1) c1
  have W := Walks.list (prog := prog) (w := w) (A := A) hh s₂.heap.objs.size ax (Nat.ne_of_lt hlt) its
  generalize hn : its.size = n at *
  generalize s₂.heap.objs.size = I at *
  generalize H1.objs.size = D at *
  generalize H2.objs.size = C at *
  have loop : ∀ s₃ : Shared, s₃ = { s₂ with heap := h₁, toks := s₂.toks + ([] : List (Str × Value)).length } →
      codeAny (model prog w) A (.compLoop (.ListComp elt [⟨.Name x px, iter, [], 0⟩] scope pos) 0 (.ref I) (.ref D) (compEnvC scope cl C env)) (compPost (model prog w) A E none Q (.ref D) C) s₃ := by
    rintro s₃ rfl
    refine codeAny_compLoop_tests
      (fun k s' => ∃ h' tk i ys m' nw, s' = { s₂ with heap := h', toks := tk } ∧ i ≤ n ∧ k = n + 1 - i ∧ ys.length = i ∧ h'.IsListIter I ax i ∧ Fr h₀ L h' m ∧ h'.Ns C m' ∧ News h₀ L h' ((D, LCg.lst ys) :: nw) ∧
        LCg.Off3 I C D nw ∧ J i ys nw) ?_ (n + 1)
      ⟨h₁, _, 0, [], _, news, rfl, Nat.zero_le _, rfl, rfl, hI1, F.keeps old, hns₁, fun p hp => ?_, off₀, J0⟩
    · rintro k s' ⟨h', tk, i, ys, m', nw, rfl, hi, rfl, hyl, hI', F', hn', N', off', J'⟩
      have hl' : h'.IsList ax its := ⟨_, (N' _ (.tail _ (Jm _ _ _ J'))).1, rfl, _, rfl⟩
      have off3 := off'.mem
      by_cases hlt : i < n
      · refine W.item i _ _ _ hlt ⟨hI', hl'⟩ fun v h₂ tk₂ hPv hst₂ hk₂ => ?_
        refine wpAny_assign_Name (wpAny_storeName_local (lookup_relabel_local hx) (hn'.at' fun o e => hk₂ _ o (by simpa using Ne.symm IC) e) (fun h₃ hn₃ hs₃ => ?_) (by simp [compEnvC, relabel, hkind]))
        refine wpAny_tests_nil ?_
        simp only [if_true]
        obtain ⟨oI, heI, hcI, hdI⟩ := hst₂.1
        have heI3 : h₃.get? I = some oI := hs₃.extBut _ _ IC heI
        obtain ⟨oC, heC, hoC⟩ := LCg.ns_obj hn₃
        have F₃ : Fr h₀ L h₃ m := (LCg.fr_but F' hk₂ LI I₀).change hs₃ (Ne.symm LC) C₀
        have N₃ : News h₀ L h₃ ((I, oI) :: (C, oC) :: (D, LCg.lst ys) :: nw) := fun p hp => by
          rcases List.mem_cons.mp hp with rfl | hp
          · exact ⟨heI3, Ne.symm LI, I₀⟩
          rcases List.mem_cons.mp hp with rfl | hp
          · exact ⟨heC, Ne.symm LC, C₀⟩
          refine ⟨hs₃.extBut _ _ ?_ (hk₂ _ _ ?_ (N' p hp).1), (N' p hp).2⟩
          · rcases List.mem_cons.mp hp with rfl | hp
            · exact DC
            · exact (off3 p hp).2.1
          · rcases List.mem_cons.mp hp with rfl | hp
            · simpa using Ne.symm ID
            · simpa using (off3 p hp).1
        refine wpAny_mono (turn i v h₃ _ I oI C oC D _ ys nw _ hPv J' hcI hoC (by simp) F₃ N₃ off') (fun y s₄ h₄ => ?_) fun _ _ e => e
        obtain ⟨h₄, tk₄, nw₄, rfl, F₄, N₄, off₄, J₄⟩ := h₄
        have zI := (N₄ (I, oI) List.mem_cons_self).1
        have zC := (N₄ (C, oC) (List.mem_cons_of_mem _ List.mem_cons_self)).1
        have zD := (N₄ (D, LCg.lst ys) (List.mem_cons_of_mem _ (List.mem_cons_of_mem _ List.mem_cons_self))).1
        refine push_at zD (by rw [hyl]; exact Nat.le_trans hi hsz) fun h₅ hs₅ hD₅ => ?_
        have off4 := off₄.mem
        refine ⟨n + 1 - (i + 1), by omega, h₅, tk₄, i + 1, ys ++ [y], _, nw₄, rfl, hlt, rfl, by rw [List.length_append, List.length_singleton, hyl], ⟨oI, hs₅.extBut _ _ ID zI, hcI, hdI⟩, F₄.change hs₅ (Ne.symm LD) D₀,
          (hoC.ns zC).sameBut hs₅ (Ne.symm DC), fun p hp => ?_, off₄, J₄⟩
        rcases List.mem_cons.mp hp with rfl | hp
        · exact ⟨hD₅, Ne.symm LD, D₀⟩
        · have z := N₄ p (List.mem_cons_of_mem _ (List.mem_cons_of_mem _ (List.mem_cons_of_mem _ hp)))
          exact ⟨hs₅.extBut _ _ (off4 p hp).2.2 z.1, z.2⟩
      · obtain rfl : i = n := Nat.le_antisymm hi (Nat.not_lt.mp hlt)
        refine W.done _ _ _ ⟨hI', hl'⟩ fun h₂ tk₂ hk₂ => ?_
        refine ⟨m', hn'.at' fun o e => hk₂ _ o (by simpa using Ne.symm IC) e, fun h'' hs'' => fin D h'' tk₂ ys nw hyl J' ((LCg.fr_but F' hk₂ LI I₀).change hs'' (Ne.symm LC) C₀) (fun p hp => ?_) off'.one ordD⟩
        refine ⟨hs''.extBut _ _ ?_ (hk₂ _ _ ?_ (N' p hp).1), (N' p hp).2⟩
        · rcases List.mem_cons.mp hp with rfl | hp
          · exact DC
          · exact (off3 p hp).2.1
        · rcases List.mem_cons.mp hp with rfl | hp
          · simpa using Ne.symm ID
          · simpa using (off3 p hp).1
    · rcases List.mem_cons.mp hp with rfl | hp
      · exact ⟨hacc, Ne.symm LD, D₀⟩
      · exact ⟨old _ _ (N p hp).1, (N p hp).2⟩
  exact codeAny_compStart_list (loop _ rfl) (wpAny_pyIter_listiter hI1 (loop _ rfl))
end
theorem offPair {h₀ h : Heap} {L I C D a : Addr} {oI oC : Obj} {m₂ : Str → Option Value} {ys : List Value} {nw : List (Addr × Obj)} {sp wr : List Nat} {t1 t2 : Tok}
    (N : News h₀ L h ((a, pairO sp wr t1 t2) :: (I, oI) :: (C, oC) :: (D, LCg.lst ys) :: nw)) (hI : oI.cls = .type "list_iterator") (hC : LCg.NsObj oC m₂) (off : LCg.Off3 I C D nw) : LCg.Off3 I C D ((a, pairO sp wr t1 t2) :: nw) := by
  have ha := (N _ (.head _)).1
  refine ⟨⟨fun e => ?_, fun e => ?_, fun e => ?_⟩, off⟩
  · have := (N (I, oI) (.tail _ (.head _))).1
    dsimp only at e this ha
    rw [← e, ha] at this
    cases this
    exact absurd (Value.type.inj hI) (by decide)
  · have := (N (C, oC) (.tail _ (.tail _ (.head _)))).1
    dsimp only at e this ha
    rw [← e, ha] at this
    cases this
    obtain ⟨es, ep, hd, _⟩ := hC
    cases hd
  · have := (N (D, LCg.lst ys) (.tail _ (.tail _ (.tail _ (.head _))))).1
    dsimp only at e this ha
    rw [← e, ha] at this
    have := congrArg Obj.cls (Option.some.inj this)
    exact absurd (Value.type.inj this) (by decide)
theorem slice3 (NS : List Int) (n : Int) (i : Nat) (h : NS.length = 12) (hn : n = 3 * (i : Int)) (hi : i < 4) :
    List.take (min (n + 3).toNat NS.length - n.toNat) (List.drop n.toNat NS) = (NS.drop (3 * i)).take 3 := by
  have e1 : n.toNat = 3 * i := by omega
  have e2 : (n + 3).toNat = 3 * i + 3 := by omega
  rw [e1, e2, h, show min (3 * i + 3) 12 - 3 * i = 3 from by omega]
/-- signs made so far -/
noncomputable def SignsJ (base : List (Addr × Obj)) (ns : List Int) (i : Nat) (ys : List Value) (nw : List (Addr × Obj)) : Prop :=
  ys.length = i ∧ (∀ p ∈ base, p ∈ nw) ∧ ∃ as : List Addr, ys = as.map Value.ref ∧ ∀ (j : Nat) (n : Int), j < i → ns[j]? = some n → ∃ a t1 t2, as[j]? = some a ∧ (a, pairO (signOf n).1 (signOf n).2 t1 t2) ∈ nw
theorem SignsJ.zero (base : List (Addr × Obj)) (ns : List Int) : SignsJ base ns 0 [] base := ⟨rfl, fun _ h => h, [], rfl, fun j _ h => by omega⟩
theorem SignsJ.step {base nw : List (Addr × Obj)} {ns : List Int} {i : Nat} {ys : List Value} (h : SignsJ base ns i ys nw) {n : Int} (hn : ns[i]? = some n) (a : Addr) (t1 t2 : Tok) :
    SignsJ base ns (i + 1) (ys ++ [.ref a]) ((a, pairO (signOf n).1 (signOf n).2 t1 t2) :: nw) := by
  obtain ⟨h1, h2, as, rfl, h3⟩ := h
  have hl : as.length = i := by simpa using h1
  refine ⟨by simp [h1], fun p hp => .tail _ (h2 p hp), as ++ [a], by simp, fun j m hj hm => ?_⟩
  by_cases e : j = i
  · subst e
    rw [hn] at hm; cases hm
    exact ⟨a, t1, t2, by rw [List.getElem?_append_right (by omega)]; simp [hl], .head _⟩
  · obtain ⟨b, u1, u2, e1, e2⟩ := h3 j m (by omega) hm
    exact ⟨b, u1, u2, by rw [List.getElem?_append_left (by omega)]; exact e1, .tail _ e2⟩
/-- rows made so far -/
noncomputable def RowsJ (base : List (Addr × Obj)) (rows : Nat → List (List Nat × List Nat)) (i : Nat) (ys : List Value) (nw : List (Addr × Obj)) : Prop :=
  ys.length = i ∧ (∀ p ∈ base, p ∈ nw) ∧ ∃ as : List Addr, ys = as.map Value.ref ∧ ∀ (j : Nat), j < i → ∃ a, as[j]? = some a ∧ RowAt nw a (rows j)
theorem RowAt.mono {n1 n2 : List (Addr × Obj)} {a : Addr} {row : List (List Nat × List Nat)} (h : RowAt n1 a row) (s : ∀ p ∈ n1, p ∈ n2) : RowAt n2 a row := by
  obtain ⟨ps, k, h1, h2, h3⟩ := h
  exact ⟨ps, k, s _ h1, h2, fun i p hp => by obtain ⟨b, t1, t2, e1, e2⟩ := h3 i p hp; exact ⟨b, t1, t2, e1, s _ e2⟩⟩
theorem RowsJ.zero (base : List (Addr × Obj)) (rows : Nat → List (List Nat × List Nat)) : RowsJ base rows 0 [] base := ⟨rfl, fun _ h => h, [], rfl, fun j h => by omega⟩
theorem RowsJ.step {base nw nw' : List (Addr × Obj)} {rows : Nat → List (List Nat × List Nat)} {i : Nat} {ys : List Value} (h : RowsJ base rows i ys nw) (hs : ∀ p ∈ nw, p ∈ nw') {a : Addr} (ha : RowAt nw' a (rows i)) :
    RowsJ base rows (i + 1) (ys ++ [.ref a]) nw' := by
  obtain ⟨h1, h2, as, rfl, h3⟩ := h
  have hl : as.length = i := by simpa using h1
  refine ⟨by simp [h1], fun p hp => hs _ (h2 p hp), as ++ [a], by simp, fun j hj => ?_⟩
  by_cases e : j = i
  · subst e
    exact ⟨a, by rw [List.getElem?_append_right (by omega)]; simp [hl], ha⟩
  · obtain ⟨b, e1, e2⟩ := h3 j (by omega)
    exact ⟨b, by rw [List.getElem?_append_left (by omega)]; exact e1, e2.mono hs⟩
noncomputable def rowOf (NS : List Int) (j : Nat) : List (List Nat × List Nat) := ((NS.drop (3 * j)).take 3).map signOf ++ [([10], [10])]
/-- the signs and the feed behind them are a row -/
theorem SignsJ.row {base nw nw' : List (Addr × Obj)} {ns : List Int} {ys : List Value} (h : SignsJ base ns ns.length ys nw) (hs : ∀ a sp wr t1 t2, (a, pairO sp wr t1 t2) ∈ nw → (a, pairO sp wr t1 t2) ∈ nw') {b T : Addr} {t1 t2 : Tok} {k : Nat}
    (hT : (T, pairO [10] [10] t1 t2) ∈ nw') (hb : (b, ({ cls := .type "list", data := .seq (ys ++ [Value.ref T]).toArray k } : Obj)) ∈ nw') : RowAt nw' b (ns.map signOf ++ [([10], [10])]) := by
  obtain ⟨h1, h2, as, rfl, h3⟩ := h
  have hl : as.length = ns.length := by simpa using h1
  refine ⟨as ++ [T], k, by simpa using hb, by simp [hl], fun i p hp => ?_⟩
  by_cases e : i < ns.length
  · rw [List.getElem?_append_left (by simpa using e), List.getElem?_map, List.getElem?_eq_getElem e] at hp
    obtain ⟨a, u1, u2, e1, e2⟩ := h3 i ns[i] e (List.getElem?_eq_getElem e)
    have : p = signOf ns[i] := by simpa using hp.symm
    subst this
    exact ⟨a, u1, u2, by rw [List.getElem?_append_left (by omega)]; exact e1, hs _ _ _ _ _ e2⟩
  · rw [List.getElem?_append_right (by simpa using e)] at hp
    simp only [List.length_map] at hp
    have : i = ns.length := by
      by_cases q : i - ns.length = 0
      · omega
      · rw [List.getElem?_eq_none (by simp; omega)] at hp; cases hp
    subst this
    have : p = ([10], [10]) := by simpa using hp.symm
    subst this
    exact ⟨T, t1, t2, by rw [List.getElem?_append_right (by omega)]; simp [hl], hT⟩
theorem nl_is : Str.ofString "\n" = ⟨[10].toArray⟩ := by decide +kernel
theorem pairApart {h₀ h : Heap} {L I C D a : Addr} {oI oC : Obj} {m₂ : Str → Option Value} {ys : List Value} {nw : List (Addr × Obj)} {sp wr : List Nat} {t1 t2 : Tok}
    (N : News h₀ L h nw) (ha : (a, pairO sp wr t1 t2) ∈ nw) (hi : (I, oI) ∈ nw) (hc : (C, oC) ∈ nw) (hd : (D, LCg.lst ys) ∈ nw) (hI : oI.cls = .type "list_iterator") (hC : LCg.NsObj oC m₂) : a ≠ I ∧ a ≠ C ∧ a ≠ D := by
  have ha := (N _ ha).1
  refine ⟨fun e => ?_, fun e => ?_, fun e => ?_⟩
  · have := (N _ hi).1
    dsimp only at e this ha
    rw [← e, ha] at this
    cases this
    exact absurd (Value.type.inj hI) (by decide)
  · have := (N _ hc).1
    dsimp only at e this ha
    rw [← e, ha] at this
    cases this
    obtain ⟨es, ep, hd, _⟩ := hC
    cases hd
  · have := (N _ hd).1
    dsimp only at e this ha
    rw [← e, ha] at this
    have := congrArg Obj.cls (Option.some.inj this)
    exact absurd (Value.type.inj this) (by decide)
noncomputable def offF (I C D : Addr) (nw : List (Addr × Obj)) : List (Addr × Obj) := nw.filter fun p => @decide (p.1 ≠ I ∧ p.1 ≠ C ∧ p.1 ≠ D) (inferInstanceAs (Decidable ((p.1 : Nat) ≠ I ∧ (p.1 : Nat) ≠ C ∧ (p.1 : Nat) ≠ D)))
theorem offF_mem {I C D : Addr} {nw : List (Addr × Obj)} {p : Addr × Obj} : p ∈ offF I C D nw ↔ p ∈ nw ∧ (p.1 ≠ I ∧ p.1 ≠ C ∧ p.1 ≠ D) := by
  unfold offF
  rw [List.mem_filter, decide_eq_true_iff]
section
variable {prog : Program} {w : World} {A : Around} {E : Value → Shared → Prop} {s : Shared} {h₀ : Heap} {L : Addr} {m : Str → Option Value} {news : List (Addr × Obj)}
theorem add_refs {a b : Addr} {vs ws : List Value} {ka kb : Nat} {Q : Value → Shared → Prop} (F : Fr h₀ L s.heap m) (N : News h₀ L s.heap news) (ha : (a, ({ cls := .type "list", data := .seq vs.toArray ka } : Obj)) ∈ news) (hb : (b, ({ cls := .type "list", data := .seq ws.toArray kb } : Obj)) ∈ news)
    (hz : vs.length + ws.length ≤ sizeLine)
    (h : ∀ D h', Fr h₀ L h' m → News h₀ L h' ((D, ({ cls := .type "list", data := .seq (vs ++ ws).toArray 0 } : Obj)) :: news) → (∀ p ∈ news, @LT.lt Nat _ p.1 D) → Q (.ref D) { s with heap := h' }) :
    wpAny (model prog w) A (binaryOp .Add (.ref a) (.ref b)) Q E s :=
  add_lists F N (News.isList N ha) (News.isList N hb) (fun h' F' N' => h _ h' F' N' fun p hp => Heap.lt_size (N p hp).1) hz
end
theorem nlNews {h₀ h : Heap} {L b l T d : Addr} {o1 o2 o4 : Obj} {t1 t2 : Tok} {nw : List (Addr × Obj)}
    (N : News h₀ L h ((b, o1) :: (l, o2) :: (T, { cls := .type "tuple", data := .seq #[.str (Str.ofString "\n") t1, .str (Str.ofString "\n") t2] }) :: (d, o4) :: nw)) : News h₀ L h ((b, o1) :: (T, pairO [10] [10] t1 t2) :: nw) := by
  rw [nl_is] at N
  exact subNews N fun p hp => by
    rcases List.mem_cons.mp hp with rfl | hp
    · exact .head _
    rcases List.mem_cons.mp hp with rfl | hp
    · exact .tail _ (.tail _ (.head _))
    exact .tail _ (.tail _ (.tail _ (.tail _ hp)))
theorem row_end {h₀ h12 : Heap} {L : Addr} {m m₂ : Str → Option Value} {I C D b T : Addr} {oI oC : Obj} {ys ys3 : List Value} {nw nw3 base base2 : List (Addr × Obj)} {t1 t2 : Tok} {NS : List Int} {i : Nat} {s : Shared} {tk : Nat}
    (F : Fr h₀ L h12 m) (N : News h₀ L h12 ((b, ({ cls := .type "list", data := .seq (ys3 ++ [Value.ref T]).toArray 0 } : Obj)) :: (T, pairO [10] [10] t1 t2) :: nw3))
    (mI : (I, oI) ∈ nw3) (mC : (C, oC) ∈ nw3) (mD : (D, LCg.lst ys) ∈ nw3) (mN : ∀ p ∈ nw, p ∈ nw3) (ab : ∀ p ∈ nw3, @LT.lt Nat _ p.1 b) (hI : oI.cls = .type "list_iterator") (hC : LCg.NsObj oC m₂) (off : LCg.Off3 I C D nw)
    (hJ : RowsJ base (rowOf NS) i ys nw) (hJ3 : SignsJ base2 ((NS.drop (3 * i)).take 3) ((NS.drop (3 * i)).take 3).length ys3 nw3) :
    ∃ h' tk' nw', ({ s with heap := h12, toks := tk } : Shared) = { s with heap := h', toks := tk' } ∧ Fr h₀ L h' m ∧ News h₀ L h' ((I, oI) :: (C, oC) :: (D, LCg.lst ys) :: nw') ∧ LCg.Off3 I C D nw' ∧ RowsJ base (rowOf NS) (i + 1) (ys ++ [.ref b]) nw' := by
  have N3 : News h₀ L h12 ((T, pairO [10] [10] t1 t2) :: nw3) := subNews N fun p hp => .tail _ hp
  have ap := fun (a : Addr) (sp wr : List Nat) (u1 u2 : Tok) (ha : (a, pairO sp wr u1 u2) ∈ (T, pairO [10] [10] t1 t2) :: nw3) => pairApart N3 ha (.tail _ mI) (.tail _ mC) (.tail _ mD) hI hC
  refine ⟨h12, tk, (b, { cls := .type "list", data := .seq (ys3 ++ [Value.ref T]).toArray 0 }) :: (T, pairO [10] [10] t1 t2) :: offF I C D nw3, rfl, F, fun p hp => ?_, LCg.Off3.of fun p hp => ?_, hJ.step (fun p hp => ?_) (hJ3.row (fun a sp wr u1 u2 ha => ?_) (.tail _ (.head _)) (.head _))⟩
  · rcases List.mem_cons.mp hp with rfl | hp
    · exact N _ (.tail _ (.tail _ mI))
    rcases List.mem_cons.mp hp with rfl | hp
    · exact N _ (.tail _ (.tail _ mC))
    rcases List.mem_cons.mp hp with rfl | hp
    · exact N _ (.tail _ (.tail _ mD))
    rcases List.mem_cons.mp hp with rfl | hp
    · exact N _ (.head _)
    rcases List.mem_cons.mp hp with rfl | hp
    · exact N _ (.tail _ (.head _))
    exact N _ (.tail _ (.tail _ (offF_mem.mp hp).1))
  · rcases List.mem_cons.mp hp with rfl | hp
    · exact ⟨Nat.ne_of_gt (ab _ mI), Nat.ne_of_gt (ab _ mC), Nat.ne_of_gt (ab _ mD)⟩
    rcases List.mem_cons.mp hp with rfl | hp
    · exact ap _ _ _ _ _ (.head _)
    exact (offF_mem.mp hp).2
  · exact .tail _ (.tail _ (offF_mem.mpr ⟨mN p hp, off.mem p hp⟩))
  · exact .tail _ (.tail _ (offF_mem.mpr ⟨ha, ap _ _ _ _ _ (.tail _ ha)⟩))
end Mine
end
section
set_option maxRecDepth 100000
set_option maxHeartbeats 8000000
set_option linter.unusedVariables false
namespace Mine
open PySem PySem.W PySem.Calls PyProof.Rows
noncomputable def prepCh (c : Nat) : List Nat := if inB1 c then [] else (foldCh c).cps.toList
noncomputable def QQ (cr ls : Bool) (l : List Nat) : List Nat := E7 (dots ls (crlf cr l))
noncomputable def XX : List Nat := [38, 35, 49, 51, 59, 38, 35, 49, 48, 59]
theorem escC_cat (c : Nat) (z a b : List Nat) : escC c z (a ++ b) = escC c z a ++ escC c z b := List.flatMap_append
theorem E7_app (a b : List Nat) : E7 (a ++ b) = E7 a ++ E7 b := by simp only [E7, E6, E5, E4, E3, E2, E1, escC_cat]
theorem E7_cr : E7 [13, 10] = XX := by decide +kernel
theorem E7_dot : E7 [46] = [46] := by decide +kernel
theorem E7_dots : E7 [46, 46] = [46, 46] := by decide +kernel
theorem QQ_nil (cr ls : Bool) : QQ cr ls [] = [] := rfl
theorem QQ_cr (cr ls : Bool) (r : List Nat) : QQ cr ls (13 :: r) = XX ++ QQ true true r := by
  have e : dots ls (crlf cr (13 :: r)) = [13, 10] ++ dots true (crlf true r) := by simp [crlf, dots]
  rw [QQ, e, E7_app, E7_cr]; rfl
theorem QQ_lf (ls : Bool) (r : List Nat) : QQ false ls (10 :: r) = XX ++ QQ false true r := by
  have e : dots ls (crlf false (10 :: r)) = [13, 10] ++ dots true (crlf false r) := by simp [crlf, dots]
  rw [QQ, e, E7_app, E7_cr]; rfl
theorem QQ_lf2 (ls : Bool) (r : List Nat) : QQ true ls (10 :: r) = QQ false ls r := by
  have e : crlf true (10 :: r) = crlf false r := by simp [crlf]
  rw [QQ, e]; rfl
theorem QQ_dot (cr : Bool) (r : List Nat) : QQ cr true (46 :: r) = [46, 46] ++ QQ false false r := by
  have e : dots true (crlf cr (46 :: r)) = [46, 46] ++ dots false (crlf false r) := by simp [crlf, dots]
  rw [QQ, e, E7_app, E7_dots]; rfl
theorem QQ_dot2 (cr : Bool) (r : List Nat) : QQ cr false (46 :: r) = [46] ++ QQ false false r := by
  have e : dots false (crlf cr (46 :: r)) = [46] ++ dots false (crlf false r) := by simp [crlf, dots]
  rw [QQ, e, E7_app, E7_dot]; rfl
theorem QQ_one (cr ls : Bool) (c : Nat) (r : List Nat) (h1 : c ≠ 13) (h2 : c ≠ 10) (h3 : c ≠ 46) : QQ cr ls (c :: r) = E7 [c] ++ QQ false false r := by
  have e : dots ls (crlf cr (c :: r)) = [c] ++ dots false (crlf false r) := by simp [crlf, dots, h1, h2, h3]
  rw [QQ, e, E7_app]; rfl
theorem QQ_many : ∀ (l : List Nat) (cr ls : Bool) (r : List Nat), l ≠ [] → (∀ d ∈ l, d ≠ 13 ∧ d ≠ 10 ∧ d ≠ 46) → QQ cr ls (l ++ r) = E7 l ++ QQ false false r
  | [], _, _, _, h, _ => absurd rfl h
  | [c], cr, ls, r, _, h => by
    obtain ⟨a, b, d⟩ := h c (.head _)
    exact QQ_one cr ls c r a b d
  | c :: d :: l, cr, ls, r, _, h => by
    obtain ⟨a, b, e⟩ := h c (.head _)
    have := QQ_many (d :: l) false false r (by simp) (fun x hx => h x (.tail _ hx))
    rw [List.cons_append, QQ_one cr ls c _ a b e, this, ← List.append_assoc, ← E7_app]; rfl
/-- a sign as the law tells it -/
inductive GSign : List Nat × List Nat → Prop
  | no (c : Nat) (h : prepCh c = []) : GSign ([c], [])
  | cr : GSign ([13], [13])
  | lf : GSign ([10], [10])
  | dot : GSign ([46], [46])
  | oth (c : Nat) (l wr : List Nat) (h : prepCh c = l) (n : l ≠ []) (a : ∀ d ∈ l, d ≠ 13 ∧ d ≠ 10 ∧ d ≠ 46) (c1 : c ≠ 13) (c2 : c ≠ 10) (e : E7 l = wr) (w1 : wr ≠ []) (w2 : wr ≠ [13]) (w3 : wr ≠ [10]) (w4 : wr ≠ [46]) : GSign ([c], wr)
theorem inCR_one (c : Nat) : inCR [c] = decide (c = 13 ∨ c = 10) := by
  unfold inCR
  have e := StrLaws.found_one (Str.ofString "\r\n") c
  rw [show (⟨[c].toArray⟩ : Str) = ⟨#[c]⟩ from rfl]
  refine Eq.trans e ?_
  have : (Str.ofString "\r\n").cps.toList = [13, 10] := by decide +kernel
  rw [this]; simp
theorem prep13 : prepCh 13 = [13] := by decide +kernel
theorem prep10 : prepCh 10 = [10] := by decide +kernel
theorem prep46 : prepCh 46 = [46] := by decide +kernel
noncomputable def crOf (la : List Nat) : Bool := decide (la = [13])
theorem good_step (p : List Nat × List Nat) (g : GSign p) (acc : List Nat) (d : Nat) : ∃ D d', dueStep (acc, [d]) p = (acc ++ D, [d']) ∧
    (∀ rest, QQ (crOf [d]) (inCR [d]) (p.1.flatMap prepCh ++ rest) = D ++ QQ (crOf [d']) (inCR [d']) rest) ∧ (p = ([10], [10]) → d' = 10) := by
  cases g with
  | no c h => exact ⟨[], d, by simp [dueStep], fun rest => by simp [h], fun e => by simp at e⟩
  | cr =>
    refine ⟨XX, 13, by simp [dueStep, XX], fun rest => ?_, fun e => by simp at e⟩
    rw [show List.flatMap prepCh [13] = [13] from by simp [prep13]]
    show QQ _ _ (13 :: rest) = _
    rw [QQ_cr, inCR_one 13]; rfl
  | lf =>
    by_cases h : d = 13
    · subst h
      refine ⟨[], 10, by simp [dueStep], fun rest => ?_, fun _ => rfl⟩
      rw [show List.flatMap prepCh [10] = [10] from by simp [prep10]]
      show QQ true _ (10 :: rest) = _
      rw [QQ_lf2, inCR_one 13, inCR_one 10]; rfl
    · refine ⟨XX, 10, by simp [dueStep, h, XX], fun rest => ?_, fun _ => rfl⟩
      rw [show List.flatMap prepCh [10] = [10] from by simp [prep10], show crOf [d] = false from by simp [crOf, h]]
      show QQ false _ (10 :: rest) = _
      rw [QQ_lf, inCR_one 10]; rfl
  | dot =>
    by_cases h : inCR [d] = true
    · refine ⟨[46, 46], 46, by simp [dueStep, h], fun rest => ?_, fun e => by simp at e⟩
      rw [show List.flatMap prepCh [46] = [46] from by simp [prep46], h]
      show QQ _ _ (46 :: rest) = _
      rw [QQ_dot, inCR_one 46]; rfl
    · refine ⟨[46], 46, by simp [dueStep, h], fun rest => ?_, fun e => by simp at e⟩
      rw [show List.flatMap prepCh [46] = [46] from by simp [prep46], Bool.eq_false_iff.mpr h]
      show QQ _ _ (46 :: rest) = _
      rw [QQ_dot2, inCR_one 46]; rfl
  | oth c l wr h n a c1 c2 e w1 w2 w3 w4 =>
    refine ⟨wr, c, by simp [dueStep, w1, w2, w3, w4], fun rest => ?_, fun e => by simp at e; exact absurd e.1 c2⟩
    rw [show List.flatMap prepCh [c] = l from by simp [h], QQ_many l _ _ rest n a, e, inCR_one c, show crOf [c] = false from by simp [crOf, c1]]
    simp [c1, c2]
theorem good_row : ∀ (row : List (List Nat × List Nat)) (acc : List Nat) (d : Nat), (∀ p ∈ row, GSign p) → ∃ D d', row.foldl dueStep (acc, [d]) = (acc ++ D, [d']) ∧
    (∀ rest, QQ (crOf [d]) (inCR [d]) ((row.flatMap (·.1)).flatMap prepCh ++ rest) = D ++ QQ (crOf [d']) (inCR [d']) rest) ∧ (row.getLast? = some ([10], [10]) → d' = 10)
  | [], acc, d, _ => ⟨[], d, by simp, fun rest => by simp, fun e => by simp at e⟩
  | p :: row, acc, d, h => by
    obtain ⟨D1, d1, a1, b1, c1⟩ := good_step p (h p (.head _)) acc d
    obtain ⟨D2, d2, a2, b2, c2⟩ := good_row row (acc ++ D1) d1 (fun x hx => h x (.tail _ hx))
    refine ⟨D1 ++ D2, d2, by rw [List.foldl_cons, a1, a2, List.append_assoc], fun rest => ?_, fun e => ?_⟩
    · rw [List.flatMap_cons, List.flatMap_append, List.append_assoc, b1, b2, List.append_assoc]
    · cases row with
      | nil =>
        have e1 : p = ([10], [10]) := by simpa using e
        have : d2 = d1 := by simpa using (congrArg Prod.snd a2).symm
        rw [this]; exact c1 e1
      | cons q row => exact c2 (by simpa using e)
/-- a row as the law builds it -/
noncomputable def GoodRow (row : List (List Nat × List Nat)) : Prop := (∀ p ∈ row, GSign p) ∧ row.getLast? = some ([10], [10])
theorem rows_QQ : ∀ rows : List (List (List Nat × List Nat)), (∀ row ∈ rows, GoodRow row) → QQ false true ((rows.flatten.flatMap (·.1)).flatMap prepCh) = rows.flatMap dueOf
  | [], _ => rfl
  | row :: rows, h => by
    obtain ⟨D, d, a, b, c⟩ := good_row row [] 10 (h row (.head _)).1
    have hd := c (h row (.head _)).2
    subst hd
    have ih := rows_QQ rows (fun x hx => h x (.tail _ hx))
    have e1 : crOf [10] = false := rfl
    have e2 : inCR [10] = true := by rw [inCR_one]; rfl
    have b' := b ((rows.flatten.flatMap (·.1)).flatMap prepCh)
    rw [e1, e2] at b'
    rw [List.flatten_cons, List.flatMap_append, List.flatMap_append, b', ih, List.flatMap_cons]
    have a' := congrArg Prod.fst a
    have e3 : dueOf row = D := a'
    rw [e3]
theorem prep_codes : ∀ l : List Nat, (prepInt (l.map fun (c : Nat) => (c : Int))).cps.toList = l.flatMap prepCh
  | [] => by
    show (Str.ofString "").cps.toList = []
    decide +kernel
  | c :: l => by
    have ih := prep_codes l
    have e : (if inB1 c then Str.ofString "" else foldCh c).cps.toList = prepCh c := by
      unfold prepCh
      cases inB1 c with
      | true => show (Str.ofString "").cps.toList = []; decide +kernel
      | false => rw [if_neg Bool.false_ne_true, if_neg Bool.false_ne_true]
    rw [List.flatMap_cons, ← ih, ← e]
    exact Array.toList_append
theorem mail_due (rows : List (List (List Nat × List Nat))) (h : ∀ row ∈ rows, GoodRow row) : mailOf rows = rows.flatMap dueOf := by
  have k : (Txt.join (Str.ofString "") (rows.flatten.map fun p => strOf p.1)).cps.toList = rows.flatten.flatMap (·.1) := by
    have d : Txt.join (Str.ofString "") (rows.flatten.map fun p => strOf p.1) = Str.join ⟨#[]⟩ (rows.flatten.map fun p => strOf p.1) := by
      rw [show (Str.ofString "") = (⟨#[]⟩ : Str) from by decide +kernel]
      exact StrLaws.glued_eq_join _ _
    rw [d, joinNil, List.map_map]
    generalize rows.flatten = l
    induction l with
    | nil => rfl
    | cons p l ih => rw [List.map_cons, List.flatten_cons, ih, List.flatMap_cons]; rfl
  have k2 := prep_codes (Txt.join (Str.ofString "") (rows.flatten.map fun p => strOf p.1)).cps.toList
  rw [k] at k2
  rw [← rows_QQ rows h]
  unfold mailOf
  rw [KStt.codes, k, k2]
  unfold QQ quoted
  with_reducible rfl
end Mine
end
section
set_option maxRecDepth 100000
set_option maxHeartbeats 8000000
set_option linter.unusedVariables false
namespace Mine
open PySem PySem.W PySem.Calls PyProof.Rows
theorem find_nodup : ∀ (cs : List (Int × Str)) (k : Int) (s : Str), (cs.map (·.1)).Nodup → (k, s) ∈ cs → cs.find? (fun c => c.1 == k) = some (k, s)
  | [], _, _, _, h => by simp at h
  | a :: r, k, s, hn, h => by
    rw [List.map_cons, List.nodup_cons] at hn
    rw [List.find?_cons]
    rcases List.mem_cons.mp h with e | h'
    · subst e; simp
    · have : a.1 ≠ k := fun e => hn.1 (List.mem_map.mpr ⟨(k, s), h', e.symm⟩)
      rw [show (a.1 == k) = false from by simpa using this]
      exact find_nodup r k s hn.2 h'
theorem b3_mem {k : Int} {s : Str} (h : (k, s) ∈ cells) : b3find k = some s := by
  unfold b3find
  rw [find_nodup cells k s (incr_nodup _ cells_incr) h]; rfl
noncomputable def inIv (k : Nat) : Bool := (Nat.ble 181 k && Nat.ble k 837) || (Nat.ble 890 k && Nat.ble k 1415) || (Nat.ble 7830 k && Nat.ble k 8188) || (Nat.ble 8360 k && Nat.ble k 13277) || (Nat.ble 64256 k && Nat.ble k 64279) || Nat.ble 119808 k
theorem t_keys : (cells.all fun c => inIv c.1.toNat) = true := by decide +kernel
theorem b3_none {c : Nat} (h : inIv c = false) : b3find c = none := by
  unfold b3find
  rw [Option.map_eq_none_iff, List.find?_eq_none]
  intro x hx e
  have e1 : x.1 = (c : Int) := by simpa using e
  have := List.all_eq_true.mp t_keys x hx
  rw [e1, Int.toNat_natCast, h] at this
  exact Bool.false_ne_true this
theorem prep_none {c : Nat} (h1 : inB1 c = false) (h2 : inIv c = false) : prepCh c = PySem.Unicode.lowerAt #[c] 0 := by
  unfold prepCh foldCh
  rw [h1, b3_none h2, if_neg Bool.false_ne_true]; rfl
theorem prep_mem {c : Nat} {l : List Nat} (h1 : inB1 c = false) (h2 : ((c : Int), (⟨l.toArray⟩ : Str)) ∈ cells) : prepCh c = l := by
  unfold prepCh foldCh
  rw [h1, b3_mem h2, if_neg Bool.false_ne_true]; rfl
/-- what is asked of a sign but for its fold -/
noncomputable def okW (c : Nat) (l wr : List Nat) : Bool :=
  decide (l ≠ []) && (l.all (fun d => decide (d ≠ 13 ∧ d ≠ 10 ∧ d ≠ 46)) && (decide (c ≠ 13 ∧ c ≠ 10) && (decide (E7 l = wr) && decide (wr ≠ [] ∧ wr ≠ [13] ∧ wr ≠ [10] ∧ wr ≠ [46]))))
theorem okW_good {c : Nat} {l wr : List Nat} (a : prepCh c = l) (h : okW c l wr = true) : GSign ([c], wr) := by
  unfold okW at h
  simp only [Bool.and_eq_true, decide_eq_true_eq, List.all_eq_true] at h
  obtain ⟨b, d, ⟨e, f⟩, g, i, j, k, m⟩ := h
  exact GSign.oth c l wr a b d e f g i j k m
noncomputable def okN (c : Nat) (l wr : List Nat) : Bool := !inB1 c && (!inIv c && (decide (PySem.Unicode.lowerAt #[c] 0 = l) && okW c l wr))
theorem okN_good {c : Nat} {l wr : List Nat} (h : okN c l wr = true) : GSign ([c], wr) := by
  unfold okN at h
  simp only [Bool.and_eq_true, decide_eq_true_eq, Bool.not_eq_true'] at h
  exact okW_good ((prep_none h.1 h.2.1).trans h.2.2.1) h.2.2.2
noncomputable def okM (c : Nat) (l wr : List Nat) : Bool := decide (prepCh c = l) && okW c l wr
theorem okM_good {c : Nat} {l wr : List Nat} (h : okM c l wr = true) : GSign ([c], wr) := by
  unfold okM at h
  simp only [Bool.and_eq_true, decide_eq_true_eq] at h
  exact okW_good h.1 h.2
theorem no_good {c : Nat} (h : inB1 c = true) : GSign ([c], []) := GSign.no c (by unfold prepCh; rw [if_pos h])
theorem t_nothing : (nothingCodes.all fun c => inB1 c.toNat) = true := by decide +kernel
theorem t_plain : (plainCodes.all fun c => okN c.toNat [c.toNat] [c.toNat]) = true := by decide +kernel
theorem t_words : ((List.range 19).all fun i => okM (wordCodes.getD i 0).toNat (wordTexts.getD i []) (wordTexts.getD i [])) = true := by decide +kernel
theorem t_five : (menu5.all fun p => okN (p.1.headD 0) p.1 p.2 && decide (p.1 = [p.1.headD 0])) = true := by decide +kernel
theorem t_great : ((List.range 26).all fun j => okN (65 + j) [97 + j] [97 + j]) = true := by decide +kernel
noncomputable def wanted : List (Int × Str) := [119808, 119860, 119912, 120016, 120172, 120224, 120276, 120328, 120380, 120432].flatMap fun s : Nat => (List.range 26).map fun j => (((s + j : Nat) : Int), (⟨#[97 + j]⟩ : Str))
theorem t_sub : wanted.isSublist cells = true := by decide +kernel
theorem t_small : ((List.range 26).all fun j => okW 200000 [97 + j] [97 + j]) = true := by decide +kernel
theorem t_set : (setCodes.all fun c => decide (0 ≤ c ∧ (c < 19968 ∨ 40869 < c) ∧ c < 119808)) = true := by decide +kernel
theorem t_one : (PySem.UnicodeData.oneLower.all fun p => Nat.blt p.2.1 19968 || Nat.blt 40869 p.1) = true := by decide +kernel
theorem t_sev : (PySem.UnicodeData.severalLower.all fun p => Nat.blt p.1 19968) = true := by decide +kernel
end Mine
end
section
set_option maxRecDepth 100000
set_option maxHeartbeats 8000000
set_option linter.unusedVariables false
namespace Mine
open PySem PySem.W PySem.Calls PyProof.Rows
theorem b1_false {c : Nat} (h : (19968 ≤ c ∧ c ≤ 40869) ∨ 119808 ≤ c) : inB1 c = false := by
  unfold inB1
  rw [decide_eq_false_iff_not]
  intro hm
  have := of_decide_eq_true (List.all_eq_true.mp t_set _ hm)
  omega
theorem iv_false {c : Nat} (h : 19968 ≤ c ∧ c ≤ 40869) : inIv c = false := by
  have e1 : Nat.ble c 837 = false := by rw [Bool.eq_false_iff]; intro e; have := Nat.le_of_ble_eq_true e; omega
  have e2 : Nat.ble c 1415 = false := by rw [Bool.eq_false_iff]; intro e; have := Nat.le_of_ble_eq_true e; omega
  have e3 : Nat.ble c 8188 = false := by rw [Bool.eq_false_iff]; intro e; have := Nat.le_of_ble_eq_true e; omega
  have e4 : Nat.ble c 13277 = false := by rw [Bool.eq_false_iff]; intro e; have := Nat.le_of_ble_eq_true e; omega
  have e5 : Nat.ble 64256 c = false := by rw [Bool.eq_false_iff]; intro e; have := Nat.le_of_ble_eq_true e; omega
  have e6 : Nat.ble 119808 c = false := by rw [Bool.eq_false_iff]; intro e; have := Nat.le_of_ble_eq_true e; omega
  unfold inIv
  rw [e1, e2, e3, e4, e5, e6]; simp
theorem shifted_none (c : Nat) : ∀ l : List (Nat × Nat × Nat), (∀ p ∈ l, p.2.1 < c ∨ c < p.1) → PySem.Unicode.shifted l c = none
  | [], _ => rfl
  | (a, b, t) :: r, h => by
    have h1 := h _ (.head _)
    have ih := shifted_none c r fun p hp => h p (.tail _ hp)
    unfold PySem.Unicode.shifted
    dsimp only at h1
    split
    · rfl
    · rw [if_neg (by omega), ih]
theorem lookup_none (c : Nat) : ∀ l : List (Nat × List Nat), (∀ p ∈ l, p.1 < c) → l.lookup c = none
  | [], _ => rfl
  | (a, b) :: r, h => by
    have h1 := h _ (.head _)
    dsimp only at h1
    rw [List.lookup_cons, show (c == a) = false from by simp; omega]
    exact lookup_none c r fun p hp => h p (.tail _ hp)
theorem lower_chinese {c : Nat} (h : 19968 ≤ c ∧ c ≤ 40869) : PySem.Unicode.lowerAt #[c] 0 = [c] := by
  have e : PySem.Unicode.lowerOf c = [c] := by
    unfold PySem.Unicode.lowerOf PySem.Unicode.image
    rw [lookup_none c _ (fun p hp => by have := List.all_eq_true.mp t_sev p hp; have := Nat.le_of_ble_eq_true this; omega),
      shifted_none c _ (fun p hp => by
        have := List.all_eq_true.mp t_one p hp
        rcases Bool.or_eq_true_iff.mp this with q | q <;> have := Nat.le_of_ble_eq_true q <;> omega)]
    rfl
  unfold PySem.Unicode.lowerAt
  rw [show (#[c] : Array Nat)[0]? = some c from rfl]
  dsimp only
  rw [show (c == 931) = false from by simp; omega, Bool.false_and, if_neg Bool.false_ne_true, e]
theorem E7_one {c : Nat} (h : c ∉ [38, 60, 62, 34, 13, 10, 9]) : E7 [c] = [c] := by
  simp only [List.mem_cons, List.not_mem_nil, or_false, not_or] at h
  obtain ⟨a1, a2, a3, a4, a5, a6, a7⟩ := h
  simp [E7, E6, E5, E4, E3, E2, E1, escC, *]
theorem chinese_good {c : Nat} (h : 19968 ≤ c ∧ c ≤ 40869) : GSign ([c], [c]) := by
  refine okW_good ((prep_none (b1_false (.inl h)) (iv_false h)).trans (lower_chinese h)) ?_
  unfold okW
  rw [E7_one (c := c) (by simp; omega)]
  simp
  omega
theorem getD_all {α : Type} {P : α → Bool} {l : List α} (h : l.all P = true) {i : Nat} (hi : i < l.length) (d : α) : P (l.getD i d) = true := by
  rw [List.getD_eq_getElem?_getD, List.getElem?_eq_getElem hi]
  exact List.all_eq_true.mp h _ (List.getElem_mem hi)
theorem range_all {P : Nat → Bool} {n i : Nat} (h : (List.range n).all P = true) (hi : i < n) : P i = true := List.all_eq_true.mp h i (List.mem_range.mpr hi)
theorem mod_lt (n k : Int) (h : 0 < k) : 0 ≤ Int.fmod n k ∧ Int.fmod n k < k := ⟨Int.fmod_nonneg_of_pos n h, Int.fmod_lt_of_pos n h⟩
theorem nothingC_len : nothingCodes.length = 27 := by decide +kernel
theorem plainC_len : plainCodes.length = 42 := by decide +kernel
theorem starts_is : letterStarts = 65 :: ([119808, 119860, 119912, 120016, 120172, 120224, 120276, 120328, 120380, 120432].map fun (s : Nat) => (s : Int)) := rfl
theorem letter_good (i j : Nat) (hi : i < 11) (hj : j < 26) : GSign ([(letterStarts.getD i 0 + (j : Int)).toNat], [97 + j]) := by
  cases i with
  | zero =>
    have := okN_good (range_all t_great hj)
    exact this
  | succ i =>
    have h1 : ∃ s : Nat, s ∈ [119808, 119860, 119912, 120016, 120172, 120224, 120276, 120328, 120380, 120432] ∧ letterStarts.getD (i + 1) 0 = (s : Int) := by
      rw [starts_is, List.getD_cons_succ, List.getD_eq_getElem?_getD, List.getElem?_map]
      rw [List.getElem?_eq_getElem (by simp; omega)]
      exact ⟨_, List.getElem_mem _, rfl⟩
    obtain ⟨s, hs, e⟩ := h1
    rw [e, show ((s : Int) + (j : Int)).toNat = s + j from by omega]
    have hge : 119808 ≤ s := by
      simp only [List.mem_cons, List.not_mem_nil, or_false] at hs
      omega
    have hm : (((s + j : Nat) : Int), (⟨#[97 + j]⟩ : Str)) ∈ cells := by
      have hsub := (List.isSublist_iff_sublist.mp t_sub).subset
      refine hsub ?_
      unfold wanted
      rw [List.mem_flatMap]
      exact ⟨s, hs, List.mem_map.mpr ⟨j, List.mem_range.mpr hj, rfl⟩⟩
    refine okW_good (prep_mem (l := [97 + j]) (b1_false (.inr (by omega))) hm) ?_
    have h2 := range_all t_small hj
    unfold okW at h2 ⊢
    simp only [Bool.and_eq_true, decide_eq_true_eq] at h2 ⊢
    obtain ⟨a, b, c, d⟩ := h2
    exact ⟨a, b, by omega, d⟩
theorem sign_good (n : Int) (h0 : 0 ≤ n) : GSign (signOf n) := by
  have b8 := mod_lt n 8 (by decide)
  unfold signOf
  generalize Int.fdiv n 8 = r at *
  split
  · exact .dot
  split
  · have b := mod_lt r 27 (by decide)
    exact no_good (getD_all t_nothing (i := (Int.fmod r 27).toNat) (by rw [nothingC_len]; omega) 0)
  split
  · generalize Int.fmod n 8 = k at *
    have : k = 3 ∨ k = 4 := by omega
    rcases this with rfl | rfl
    · exact .cr
    · exact .lf
  split
  · have b := mod_lt r 5 (by decide)
    have := getD_all t_five (i := (Int.fmod r 5).toNat) (by show _ < 5; omega) ([], [])
    rw [Bool.and_eq_true, decide_eq_true_eq] at this
    have g := okN_good this.1
    rw [← this.2] at g
    exact g
  split
  · split
    · generalize Int.fdiv r 2 = q
      have b := mod_lt q 26 (by decide)
      have b' := mod_lt (Int.fdiv q 26) 11 (by decide)
      have := letter_good (Int.fmod (Int.fdiv q 26) 11).toNat (Int.fmod q 26).toNat (by omega) (by omega)
      rw [show (((Int.fmod q 26).toNat : Nat) : Int) = Int.fmod q 26 from by omega] at this
      unfold letterOf
      rw [show (97 + Int.fmod q 26).toNat = 97 + (Int.fmod q 26).toNat from by omega]
      exact this
    · generalize Int.fdiv r 2 = q
      have b := mod_lt q 19 (by decide)
      exact okM_good (range_all t_words (i := (Int.fmod q 19).toNat) (by omega))
  split
  · generalize Int.fdiv r 2 = q
    have b := mod_lt q 42 (by decide)
    exact okN_good (getD_all t_plain (i := (Int.fmod q 42).toNat) (by rw [plainC_len]; omega) 0)
  · generalize Int.fdiv r 2 = q
    have b := mod_lt q 20902 (by decide)
    exact chinese_good (by omega)
theorem row_good (ns : List Int) (h : ∀ n ∈ ns, 0 ≤ n) : GoodRow (ns.map signOf ++ [([10], [10])]) := by
  refine ⟨fun p hp => ?_, by simp⟩
  rcases List.mem_append.mp hp with q | q
  · obtain ⟨n, hn, rfl⟩ := List.mem_map.mp q
    exact sign_good n (h n hn)
  · rw [List.mem_singleton.mp q]; exact .lf
end Mine
end
section
set_option maxRecDepth 100000
set_option maxHeartbeats 8000000
set_option linter.unusedVariables false
namespace Mine
open PySem PySem.W PySem.Calls PyProof.Rows
noncomputable def shortP (p : List Nat × List Nat) : Bool := decide (p.1.length ≤ 1 ∧ p.2.length ≤ 20)
theorem t_menu2 : menu2.all shortP = true := by decide
theorem t_menu5 : menu5.all shortP = true := by decide
theorem t_wordT : (wordTexts.all fun l => decide (l.length ≤ 20)) = true := by decide
theorem getD_short {l : List (List Nat × List Nat)} (h : l.all shortP = true) (i : Nat) : (l.getD i ([], [])).1.length ≤ 1 ∧ (l.getD i ([], [])).2.length ≤ 20 := by
  by_cases hi : i < l.length
  · exact of_decide_eq_true (getD_all h hi ([], []))
  · rw [List.getD_eq_getElem?_getD, List.getElem?_eq_none (by omega)]; exact ⟨by decide, by decide⟩
theorem word_short (n : Int) : (wordText n).length ≤ 20 := by
  unfold wordText
  by_cases hi : (Int.fmod n 19).toNat < wordTexts.length
  · exact of_decide_eq_true (getD_all t_wordT hi [])
  · rw [List.getD_eq_getElem?_getD, List.getElem?_eq_none (by omega)]; exact Nat.zero_le _
theorem sign_short (n : Int) : (signOf n).1.length ≤ 1 ∧ (signOf n).2.length ≤ 20 := by
  unfold signOf
  split
  · exact ⟨by decide, by decide⟩
  split
  · exact ⟨Nat.le_refl 1, Nat.zero_le _⟩
  split
  · exact getD_short t_menu2 _
  split
  · exact getD_short t_menu5 _
  split
  · split
    · exact ⟨Nat.le_refl 1, by show 1 ≤ 20; decide⟩
    · exact ⟨Nat.le_refl 1, word_short _⟩
  split
  · exact ⟨Nat.le_refl 1, by show 1 ≤ 20; decide⟩
  · exact ⟨Nat.le_refl 1, by show 1 ≤ 20; decide⟩
theorem rowOf_good (NS : List Int) (h0 : ∀ n ∈ NS, 0 ≤ n) (j : Nat) : GoodRow (rowOf NS j) ∧ (rowOf NS j).length ≤ 4 ∧ ∀ p ∈ rowOf NS j, p.1.length ≤ 1 ∧ p.2.length ≤ 20 := by
  unfold rowOf
  refine ⟨row_good _ fun n hn => h0 n (List.mem_of_mem_drop (List.mem_of_mem_take hn)), ?_, fun p hp => ?_⟩
  · rw [List.length_append, List.length_map, List.length_take]
    simp only [List.length_cons, List.length_nil]
    omega
  · rcases List.mem_append.mp hp with q | q
    · obtain ⟨n, _, rfl⟩ := List.mem_map.mp q
      exact sign_short n
    · rw [List.mem_singleton.mp q]; exact ⟨by decide, by decide⟩
end Mine
end
section
set_option maxRecDepth 100000
set_option maxHeartbeats 8000000
set_option linter.unusedVariables false
namespace Mine
open PySem PySem.W PySem.Calls PyProof.Rows
noncomputable def RestOk (L : Addr) (rest : List (Addr × Obj)) : Prop := ∀ p ∈ rest, @LE.le Nat _ p.1 L ∨ @LT.lt Nat _ (L + 7) p.1
theorem restNe {L d : Addr} {rest : List (Addr × Obj)} (h : RestOk L rest) (h1 : @LT.lt Nat _ L d) (h2 : @LE.le Nat _ d (L + 7)) : ∀ p ∈ rest, p.1 ≠ d := fun p hp e => by
  have := h p hp
  rw [e] at this
  omega
/-- the seven cells of the law's frame -/
noncomputable abbrev cellsL (L : Addr) (o1 o2 o3 o4 o5 o6 o7 : Obj) (rest : List (Addr × Obj)) : List (Addr × Obj) :=
  (L + 1 + 1 + 1 + 1 + 1 + 1 + 1, o7) :: (L + 1 + 1 + 1 + 1 + 1 + 1, o6) :: (L + 1 + 1 + 1 + 1 + 1, o5) :: (L + 1 + 1 + 1 + 1, o4) :: (L + 1 + 1 + 1, o3) :: (L + 1 + 1, o2) :: (L + 1, o1) :: rest
/-- four rows, in the ledger at these places -/
noncomputable def RowsIn (rest : List (Addr × Obj)) (rows : List (List (List Nat × List Nat))) (as : List Addr) : Prop :=
  as.length = rows.length ∧ ∀ (j : Nat) (row : List (List Nat × List Nat)), rows[j]? = some row → ∃ a, as[j]? = some a ∧ RowAt rest a row
theorem row_at {rest : List (Addr × Obj)} {rows : List (List (List Nat × List Nat))} {as : List Addr} {i : Nat} {v : Value} (h : RowsIn rest rows as) (hv : (as.map Value.ref).toArray[i]? = some v) :
    ∃ a row, as[i]? = some a ∧ rows[i]? = some row ∧ v = .ref a := by
  rw [List.getElem?_toArray, List.getElem?_map, Option.map_eq_some_iff] at hv
  obtain ⟨a, ha, rfl⟩ := hv
  have hi : i < rows.length := by
    rw [← h.1]; exact (List.getElem?_eq_some_iff.mp ha).1
  exact ⟨a, rows[i], ha, List.getElem?_eq_getElem hi, rfl⟩
/-- dues told so far -/
noncomputable def DuesJ (base : List (Addr × Obj)) (rows : List (List (List Nat × List Nat))) (i : Nat) (ys : List Value) (nw : List (Addr × Obj)) : Prop :=
  nw = base ∧ StrsAre ys ((rows.take i).map fun r => strOf (dueOf r))
theorem DuesJ.zero (base : List (Addr × Obj)) (rows : List (List (List Nat × List Nat))) : DuesJ base rows 0 [] base := ⟨rfl, .nil⟩
theorem DuesJ.step {base nw : List (Addr × Obj)} {rows : List (List (List Nat × List Nat))} {i : Nat} {ys : List Value} {row : List (List Nat × List Nat)} (h : DuesJ base rows i ys nw) (hr : rows[i]? = some row) (t : Tok) :
    DuesJ base rows (i + 1) (ys ++ [.str ⟨(dueOf row).toArray⟩ t]) nw := by
  refine ⟨h.1, ?_⟩
  rw [List.take_add_one, hr, List.map_append]
  exact h.2.append' (.cons _ _ .nil)
theorem stop_ct {prog : Program} {w : World} {A : Around} {f : Expr} {as : List Expr} {ks : List Keyword} {p : Pos} {gs : List Comprehension} {sc : Scope} {pos : Pos} {env : Env} {Q : Value → Shared → Prop} {E : Value → Shared → Prop} {s : Shared}
    (h : Stop (wpAny (model prog w) A (eval (.ListComp (.Call f as ks p) gs sc pos) env) Q E s)) : wpAny (model prog w) A (eval (.ListComp (.Call f as ks p) gs sc pos) env) Q E s := h
theorem RowsIn.append {rest : List (Addr × Obj)} {r1 r2 : List (List (List Nat × List Nat))} {a1 a2 : List Addr} (h1 : RowsIn rest r1 a1) (h2 : RowsIn rest r2 a2) : RowsIn rest (r1 ++ r2) (a1 ++ a2) := by
  refine ⟨by rw [List.length_append, List.length_append, h1.1, h2.1], fun j row hj => ?_⟩
  by_cases e : j < r1.length
  · rw [List.getElem?_append_left e] at hj
    rw [List.getElem?_append_left (by rw [h1.1]; exact e)]
    exact h1.2 j row hj
  · rw [List.getElem?_append_right (by omega)] at hj
    rw [List.getElem?_append_right (by rw [h1.1]; omega), h1.1]
    exact h2.2 _ row hj
theorem RowsIn.at {rest news : List (Addr × Obj)} {rows : List (List (List Nat × List Nat))} {as : List Addr} (h : RowsIn rest rows as) (s : ∀ p ∈ rest, p ∈ news) {R : Addr} {k : Nat} {vs : List Value} (hv : vs = as.map Value.ref)
    (hm : (R, ({ cls := .type "list", data := .seq vs.toArray k } : Obj)) ∈ news) : RowsAt news R rows := by
  subst hv
  exact ⟨as, k, hm, h.1, fun i row hr => by obtain ⟨a, e1, e2⟩ := h.2 i row hr; exact ⟨a, e1, e2.mono s⟩⟩
theorem drop2 {h₀ h : Heap} {L : Addr} {a b : Addr × Obj} {l : List (Addr × Obj)} (N : News h₀ L h ([a] ++ b :: l)) : News h₀ L h l := subNews N fun p hp => .tail _ (.tail _ hp)
/-- what the law asks of a row -/
noncomputable def RowOk (row : List (List Nat × List Nat)) : Prop := GoodRow row ∧ row.length ≤ 4 ∧ ∀ p ∈ row, p.1.length ≤ 1 ∧ p.2.length ≤ 20
theorem rows_flat1 {rows : List (List (List Nat × List Nat))} (h : ∀ row ∈ rows, RowOk row) : ∀ p ∈ rows.flatten, p.1.length ≤ 1 := fun p hp => by
  obtain ⟨row, hr, hp⟩ := List.mem_flatten.mp hp
  exact ((h row hr).2.2 p hp).1
theorem rows_rows {rows : List (List (List Nat × List Nat))} (h : ∀ row ∈ rows, RowOk row) : ∀ row ∈ rows ++ rows, RowOk row := fun row hr => by
  rcases List.mem_append.mp hr with q | q <;> exact h row q
theorem dueFold_len : ∀ (row : List (List Nat × List Nat)) (st : List Nat × List Nat), (∀ p ∈ row, p.2.length ≤ 20) → (row.foldl dueStep st).1.length ≤ st.1.length + 20 * row.length
  | [], st, _ => Nat.le_refl _
  | p :: row, st, h => by
    have h1 := dueStep_len st p (h p (.head _))
    have h2 := dueFold_len row (dueStep st p) fun x hx => h x (.tail _ hx)
    rw [List.foldl_cons, List.length_cons]
    omega
theorem due_len {row : List (List Nat × List Nat)} (h : RowOk row) : (dueOf row).length ≤ 80 := by
  have h1 := dueFold_len row ([], [10]) fun p hp => (h.2.2 p hp).2
  have h2 := h.2.1
  unfold dueOf
  have : (([], [10]) : List Nat × List Nat).1.length = 0 := rfl
  omega
theorem dues_sum : ∀ (rows : List (List (List Nat × List Nat))), (∀ row ∈ rows, RowOk row) → ((rows.map fun r => strOf (dueOf r)).map (·.length)).sum ≤ 80 * rows.length
  | [], _ => Nat.le_refl _
  | r :: rows, h => by
    have h1 := due_len (h r (.head _))
    have h2 := dues_sum rows fun x hx => h x (.tail _ hx)
    have h3 : (strOf (dueOf r)).length = (dueOf r).length := by simp [strOf, Str.length]
    simp only [List.map_cons, List.sum_cons, List.length_cons]
    omega
theorem due_join (rows : List (List (List Nat × List Nat))) : Txt.join (Str.ofString "") (rows.map fun r => strOf (dueOf r)) = ⟨(rows.flatMap dueOf).toArray⟩ := by
  have d : Txt.join (Str.ofString "") (rows.map fun r => strOf (dueOf r)) = Str.join ⟨#[]⟩ (rows.map fun r => strOf (dueOf r)) := by
    rw [show (Str.ofString "") = (⟨#[]⟩ : Str) from by decide +kernel]
    exact StrLaws.glued_eq_join _ _
  have e : (Str.join ⟨#[]⟩ (rows.map fun r => strOf (dueOf r))).cps.toList = rows.flatMap dueOf := by
    rw [joinNil, List.map_map]
    clear d
    induction rows with
    | nil => rfl
    | cons p l ih => rw [List.map_cons, List.flatten_cons, ih, List.flatMap_cons]; rfl
  rw [d, ← e]
theorem mail_str {rows : List (List (List Nat × List Nat))} (h : ∀ row ∈ rows, RowOk row) : (⟨(mailOf rows).toArray⟩ : Str) = Txt.join (Str.ofString "") (rows.map fun r => strOf (dueOf r)) := by
  rw [due_join, mail_due rows fun row hr => (h row hr).1]
end Mine
end
section
set_option maxRecDepth 100000
set_option maxHeartbeats 8000000
set_option linter.unusedVariables false
namespace Mine
open PySem PySem.W PySem.Calls PyProof.Rows
noncomputable def restOf (L : Addr) (nw : List (Addr × Obj)) : List (Addr × Obj) := nw.filter fun p => @decide (@LE.le Nat _ p.1 L ∨ @LT.lt Nat _ (L + 7) p.1) (inferInstanceAs (Decidable ((p.1 : Nat) ≤ L ∨ (L + 7 : Nat) < p.1)))
theorem restOf_mem {L : Addr} {nw : List (Addr × Obj)} {p : Addr × Obj} : p ∈ restOf L nw ↔ p ∈ nw ∧ (@LE.le Nat _ p.1 L ∨ @LT.lt Nat _ (L + 7) p.1) := by
  unfold restOf
  rw [List.mem_filter, decide_eq_true_iff]
theorem restOf_ok (L : Addr) (nw : List (Addr × Obj)) : RestOk L (restOf L nw) := fun p hp => (restOf_mem.mp hp).2
noncomputable def CellsIn (L : Addr) (nw : List (Addr × Obj)) : Prop := ∀ k : Nat, 1 ≤ k → k ≤ 7 → ∃ (o : Obj) (v : Option Value), ((@HAdd.hAdd Nat Nat Nat _ L k : Addr), o) ∈ nw ∧ o.data = .cell v
theorem cells_of {L : Addr} {nw : List (Addr × Obj)} {o1 o2 o3 o4 o5 o6 o7 : Obj} {v1 v2 v3 v4 v5 v6 v7 : Option Value} (m : ∀ p ∈ cellsL L o1 o2 o3 o4 o5 o6 o7 [], p ∈ nw)
    (d1 : o1.data = .cell v1) (d2 : o2.data = .cell v2) (d3 : o3.data = .cell v3) (d4 : o4.data = .cell v4) (d5 : o5.data = .cell v5) (d6 : o6.data = .cell v6) (d7 : o7.data = .cell v7) : CellsIn L nw := by
  intro k h1 h2
  rcases k with _ | _ | _ | _ | _ | _ | _ | _ | k
  · omega
  · exact ⟨o1, v1, m _ (.tail _ (.tail _ (.tail _ (.tail _ (.tail _ (.tail _ (.head _))))))), d1⟩
  · exact ⟨o2, v2, m _ (.tail _ (.tail _ (.tail _ (.tail _ (.tail _ (.head _)))))), d2⟩
  · exact ⟨o3, v3, m _ (.tail _ (.tail _ (.tail _ (.tail _ (.head _))))), d3⟩
  · exact ⟨o4, v4, m _ (.tail _ (.tail _ (.tail _ (.head _)))), d4⟩
  · exact ⟨o5, v5, m _ (.tail _ (.tail _ (.head _))), d5⟩
  · exact ⟨o6, v6, m _ (.tail _ (.head _)), d6⟩
  · exact ⟨o7, v7, m _ (.head _), d7⟩
  · omega
theorem seq_off {h₀ h : Heap} {L a : Addr} {nw : List (Addr × Obj)} {o : Obj} (N : News h₀ L h nw) (C : CellsIn L nw) (ha : (a, o) ∈ nw) {x : Array Value} {n : Nat} (ho : o.data = .seq x n) : @LE.le Nat _ a L ∨ @LT.lt Nat _ (L + 7) a := by
  by_cases h1 : @LE.le Nat _ a L
  · exact .inl h1
  by_cases h2 : @LT.lt Nat _ (L + 7) a
  · exact .inr h2
  exfalso
  obtain ⟨oc, v, hc, hd⟩ := C (@HSub.hSub Nat Nat Nat _ a L) (by omega) (by omega)
  have e : (@HAdd.hAdd Nat Nat Nat _ L (@HSub.hSub Nat Nat Nat _ a L) : Addr) = a :=
     Nat.add_sub_cancel' (Nat.le_of_lt (Nat.lt_of_not_le h1))
  rw [e] at hc
  have p1 := (N _ ha).1
  have p2 := (N _ hc).1
  dsimp only at p1 p2
  rw [p1] at p2
  cases p2
  rw [ho] at hd
  cases hd
theorem rowAt_restOf {h₀ h : Heap} {L a : Addr} {nw : List (Addr × Obj)} {row : List (List Nat × List Nat)} (N : News h₀ L h nw) (C : CellsIn L nw) (r : RowAt nw a row) : RowAt (restOf L nw) a row := by
  obtain ⟨ps, k, h1, h2, h3⟩ := r
  refine ⟨ps, k, restOf_mem.mpr ⟨h1, seq_off N C h1 rfl⟩, h2, fun i p hp => ?_⟩
  obtain ⟨b, t1, t2, e1, e2⟩ := h3 i p hp
  exact ⟨b, t1, t2, e1, restOf_mem.mpr ⟨e2, seq_off N C e2 rfl⟩⟩
theorem rows_final {h₀ h : Heap} {L : Addr} {nw base : List (Addr × Obj)} {NS : List Int} {ys : List Value} (N : News h₀ L h nw) (C : CellsIn L nw) (hJ : RowsJ base (rowOf NS) 4 ys nw) :
    ∃ as : List Addr, ys = as.map Value.ref ∧ RowsIn (restOf L nw) ((List.range 4).map (rowOf NS)) as := by
  obtain ⟨h1, h2, as, rfl, h3⟩ := hJ
  refine ⟨as, rfl, by simpa using h1, fun j row hj => ?_⟩
  rw [List.getElem?_map, Option.map_eq_some_iff] at hj
  obtain ⟨k, hk, rfl⟩ := hj
  have hk4 : k < 4 := List.mem_range.mp (List.mem_of_getElem? hk)
  have hjk : k = j := by
    have := List.getElem?_eq_some_iff.mp hk
    obtain ⟨hlt, e⟩ := this
    simpa using e.symm
  subst hjk
  obtain ⟨a, e1, e2⟩ := h3 k hk4
  exact ⟨a, e1, rowAt_restOf N C e2⟩
theorem rows_good (NS : List Int) (h0 : ∀ n ∈ NS, 0 ≤ n) : ∀ row ∈ (List.range 4).map (rowOf NS), RowOk row := fun row hr => by
  obtain ⟨j, _, rfl⟩ := List.mem_map.mp hr
  exact rowOf_good NS h0 j
theorem finalNews {h₀ h : Heap} {L : Addr} {d : Addr × Obj} {nw : List (Addr × Obj)} {o1 o2 o3 o4 o5 o6 o7 : Obj} (N : News h₀ L h (d :: nw)) (m : ∀ p ∈ cellsL L o1 o2 o3 o4 o5 o6 o7 [], p ∈ nw) : News h₀ L h (d :: cellsL L o1 o2 o3 o4 o5 o6 o7 (restOf L nw)) := subNews N fun p hp => by
  rcases List.mem_cons.mp hp with rfl | hp
  · exact .head _
  have e : cellsL L o1 o2 o3 o4 o5 o6 o7 (restOf L nw) = cellsL L o1 o2 o3 o4 o5 o6 o7 [] ++ restOf L nw := rfl
  rw [e] at hp
  rcases List.mem_append.mp hp with hp | hp
  · exact .tail _ (m _ hp)
  · exact .tail _ (restOf_mem.mp hp).1
end Mine
end
section
set_option maxRecDepth 100000
set_option maxHeartbeats 8000000
set_option linter.unusedVariables false
namespace Mine
open PySem PySem.W PySem.Calls PyProof.Rows
section
variable {prog : Program} {w : World} {A : Around}
noncomputable def FTurn (prog : Program) (w : World) (A : Around) (h₀ : Heap) (env : Env) (target : Expr) (body : List Stmt) (E : Value → Shared → Prop) (s₁ : Shared) (n : Nat) (J : Nat → (Str → Option Value) → List (Addr × Obj) → Prop) : Prop :=
  ∀ (i : Nat) (h : Heap) (tk : Nat) (I : Addr) (oI : Obj) (m : Str → Option Value) (nw : List (Addr × Obj)) (t : Tok), i < n → oI.cls = .type "range_iterator" → J i m nw → Fr h₀ env.locals h m → News h₀ env.locals h ((I, oI) :: nw) → (∀ p ∈ nw, p.1 ≠ I) →
    wpAny (model prog w) A (assign target env (.int (i : Int) t)) (fun _ s₂ => wpAny (model prog w) A (execs body env) (fun f s₃ => f = .next ∧ ∃ h' tk' m' nw', s₃ = { s₁ with heap := h', toks := tk' } ∧ Fr h₀ env.locals h' m' ∧ News h₀ env.locals h' ((I, oI) :: nw') ∧
      (∀ p ∈ nw', p.1 ≠ I) ∧ J (i + 1) m' nw') E s₂) E { s₁ with heap := h, toks := tk }
/-- a loop's source: a range from 0, what holds from turn to turn, and the end -/
noncomputable def FSrc (prog : Program) (w : World) (A : Around) (h₀ : Heap) (env : Env) (target : Expr) (body : List Stmt) (Q : Flow → Shared → Prop) (E : Value → Shared → Prop) (xv : Value) (s₁ : Shared) : Prop :=
  ∃ (r : Addr) (b : Int) (t u v : Tok) (n : Nat) (news : List (Addr × Obj)) (m : Str → Option Value) (J : Nat → (Str → Option Value) → List (Addr × Obj) → Prop), xv = .ref r ∧ A.handled = none ∧ Fr h₀ env.locals s₁.heap m ∧ News h₀ env.locals s₁.heap news ∧
    IsRange s₁.heap r 0 b 1 t u v ∧ Builtin.Range.small 0 b 1 = true ∧ Builtin.Range.rangeSize 0 b 1 = ((n : Nat) : Int) ∧ J 0 m news ∧ FTurn prog w A h₀ env target body E s₁ n J ∧
    (∀ h tk m' nw, J n m' nw → Fr h₀ env.locals h m' → News h₀ env.locals h nw → Q .next { s₁ with heap := h, toks := tk })
theorem for_any {E : Value → Shared → Prop} {Q : Flow → Shared → Prop} {x : Str} {px : Pos} {iter : Expr} {pos : Pos} {body : List Stmt} {s : Shared} {env : Env} (h₀ : Heap)
    (h : wpAny (model prog w) A (eval iter env) (FSrc prog w A h₀ env (.Name x px) body Q E) E s)
    (hs : ∀ x, foldedSetIterable iter env x = pure x) (hE : PassesOwn (model prog w) A env E) :
    wpAny (model prog w) A (exec (.For (.Name x px) iter body [] pos) env) Q E s := by
  refine wpAny_For (wpAny_mono h (fun xv s₁ h₁ => ?_) fun _ _ e => e) hs
  obtain ⟨r, b, t, u, v, n, news, m, J, rfl, hh, F, N, hr, hsm, hn, hJ, turn, fin⟩ := h₁
  refine wpAny_pyIter_range hr hsm ?_
  have up : ∀ c o, s₁.heap.get? c = some o → (s₁.heap.push { cls := .type "range_iterator", data := .fields #[rawInt 0, rawInt (Builtin.Range.rangeSize 0 b 1), rawInt 1] }).get? c = some o := fun c o e => Heap.get?_push_of_some _ e
  have hI := Heap.get?_push_size s₁.heap (o := { cls := .type "range_iterator", data := .fields #[rawInt 0, rawInt (Builtin.Range.rangeSize 0 b 1), rawInt 1] }) rfl
  have hLlt : @LT.lt Nat _ env.locals s₁.heap.objs.size := F.ns.lt
  have I₀ : h₀.get? s₁.heap.objs.size = none := next_is_new F
  have LI : env.locals ≠ s₁.heap.objs.size := Nat.ne_of_lt hLlt
  have offI : ∀ p ∈ news, p.1 ≠ s₁.heap.objs.size := fun p hp => Nat.ne_of_lt (Heap.lt_size (N p hp).1)
  rw [hn] at up hI ⊢
  have F1 := F.keeps up
  have N1 := N.grown up
  generalize s₁.heap.push { cls := .type "range_iterator", data := .fields #[rawInt 0, rawInt ((n : Nat) : Int), rawInt 1] } = H1 at *
  generalize s₁.heap.objs.size = I at *
  have W := LCg.range_walks (prog := prog) (w := w) (A := A) (I := I) hh 0 n
  refine codeAny_forLoop_any (R := fun r s' => match r with | .ok f => Q f s' | .error e => cameBackBy (model prog w) A env E e s')
    (fun k s' => ∃ h' tk m' nw i, s' = { s₁ with heap := h', toks := tk } ∧ IsRangeIter h' I (0 + (i : Nat) * 1) ((n : Int) - (i : Nat)) 1 ∧ Fr h₀ env.locals h' m' ∧ News h₀ env.locals h' nw ∧ (∀ p ∈ nw, p.1 ≠ I) ∧ J i m' nw ∧ i ≤ n ∧ k = n + 1 - i) ?_ (n + 1)
    ⟨H1, _, m, news, 0, rfl, by simpa using hI, F1, N1, offI, hJ, Nat.zero_le _, rfl⟩
  rintro k s' ⟨h', tk, m', nw, i, rfl, hst', F', N', off', hJ', hi, rfl⟩
  by_cases hlt : i < n
  · refine W.item i _ _ _ hlt hst' fun v h₁ tk₁ hP hst₁ hk₁ => ?_
    obtain ⟨t1, rfl⟩ := hP
    have F₁ : Fr h₀ env.locals h₁ m' := LCg.fr_but F' hk₁ LI I₀
    have N₁ : News h₀ env.locals h₁ ((I, _) :: nw) := fun p hp => by
      rcases List.mem_cons.mp hp with rfl | hp
      · exact ⟨hst₁, Ne.symm LI, I₀⟩
      · exact ⟨hk₁ _ _ (by simpa using off' p hp) (N' p hp).1, (N' p hp).2⟩
    refine wpAny_of_eq (show letOwnedTupleGo (.Name x px) (.ref I) (.int (0 + (i : Int)) t1) = pure () from rfl) ?_
    rw [show (0 + (i : Int)) = (i : Int) from Int.zero_add _]
    refine wpAny_mono (turn i h₁ tk₁ I _ m' nw t1 hlt rfl hJ' F₁ N₁ off') (fun _ s₂ h₂ => wpAny_mono h₂ (fun f s₃ h₃ => ?_) hE) hE
    obtain ⟨rfl, h₄, tk₄, m₄, nw₄, rfl, F₄, N₄, off₄, J₄⟩ := h₃
    exact ⟨n + 1 - (i + 1), by omega, h₄, tk₄, m₄, nw₄, i + 1, rfl, (N₄ _ (.head _)).1, F₄, fun p hp => N₄ p (.tail _ hp), off₄, J₄, hlt, rfl⟩
  · have hin : i = n := by omega
    subst hin
    refine W.done _ _ _ hst' fun h₁ tk₁ hk₁ => wpAny_execs_nil ?_
    exact fin h₁ tk₁ m' nw hJ' (LCg.fr_but F' hk₁ LI I₀) fun p hp => ⟨hk₁ _ _ (by simpa using off' p hp) (N' p hp).1, (N' p hp).2⟩
end
end Mine
end
section
set_option maxRecDepth 100000
set_option maxHeartbeats 8000000
set_option linter.unusedVariables false
namespace Mine
open PySem PySem.W PySem.Calls PyProof.Rows
noncomputable def placesOf (c : Nat) : List Nat := (List.range 4).filter fun k => c / 2 ^ k % 2 == 1
noncomputable def dlen (rows : List (List (List Nat × List Nat))) (k : Nat) : Nat := (dueOf (rows.getD k [])).length
noncomputable def mlen (rows : List (List (List Nat × List Nat))) (c : Nat) : Nat := ((placesOf c).map (dlen rows)).sum
noncomputable def sideOf (c : Nat) : Int := 1 - 2 * (((placesOf c).length % 2 : Nat) : Int)
noncomputable def sizesAt (rows : List (List (List Nat × List Nat))) (i : Nat) : List Int := ((List.range i).filter fun c => (placesOf c).length == 1).map fun c => ((mlen rows c : Nat) : Int)
noncomputable def restsAt (rows : List (List (List Nat × List Nat))) (i : Nat) : List Int := (List.range 7).map fun k => ((List.range i).map fun c => sideOf c * ((mlen rows c : Nat) : Int) ^ k).sum
theorem restLt {R d : Addr} {rest : List (Addr × Obj)} (h : ∀ p ∈ rest, @LT.lt Nat _ p.1 R) (hd : @LE.le Nat _ R d) : ∀ p ∈ rest, p.1 ≠ d := fun p hp => Nat.ne_of_lt (Nat.lt_of_lt_of_le (h p hp) hd)
theorem off1_of {I : Addr} : ∀ {l : List (Addr × Obj)}, (∀ p ∈ l, p.1 ≠ I) → LCg.Off1 I l
  | [], _ => trivial
  | p :: l, h => ⟨h p (.head _), off1_of fun q hq => h q (.tail _ hq)⟩
theorem off1_to {I : Addr} : ∀ {l : List (Addr × Obj)}, LCg.Off1 I l → ∀ p ∈ l, p.1 ≠ I
  | [], _, _, h => nomatch h
  | p :: l, h, q, hq => by
    rcases List.mem_cons.mp hq with rfl | hq
    · exact h.1
    · exact off1_to h.2 q hq
theorem places_all : ∀ i, i < 16 → List.map (fun a => a) (List.filter (fun a : Int => (((i : Nat) : Int).fdiv (2 ^ a.toNat)).fmod 2 == 1) (rangeInts 0 1 (4 - 0 : Int).toNat)) = (placesOf i).map fun k => ((k : Nat) : Int) := by decide +kernel
theorem places_is (i : Nat) (h : i < 16) : List.map (fun a => a) (List.filter (fun a : Int => (((i : Nat) : Int).fdiv (2 ^ a.toNat)).fmod 2 == 1) (rangeInts 0 1 (4 - 0 : Int).toNat)) = (placesOf i).map fun k => ((k : Nat) : Int) := places_all i h
/-- what holds ahead of the loop's turn i -/
noncomputable def LoopJ (L R D S : Addr) (m₀ : Str → Option Value) (rest : List (Addr × Obj)) (rows : List (List (List Nat × List Nat))) (as : List Addr) (ds : List Value) (i : Nat) (m : Str → Option Value) (nw : List (Addr × Obj)) : Prop :=
  ∃ (u : Option Value) (T : Addr) (sv tv : List Value) (k1 k2 : Nat) (o1 o2 o3 o4 o5 o6 o7 : Obj) (v1 v5 v6 v7 : Option Value), (m = fun y => if y = Str.ofString "sizes" then some (.ref S) else if y = Str.ofString "places" then u else m₀ y) ∧ (@Ne Nat S T ∧ @Ne Nat D T ∧ @Ne Nat R T ∧ (@LE.le Nat _ T L ∨ @LT.lt Nat _ (L + 7) T)) ∧
    o1.data = .cell v1 ∧ o2.data = .cell (some (.ref R)) ∧ o3.data = .cell (some (.ref D)) ∧ o4.data = .cell (some (.ref T)) ∧ o5.data = .cell v5 ∧ o6.data = .cell v6 ∧ o7.data = .cell v7 ∧
    IntsAre sv (sizesAt rows i) ∧ IntsAre tv (restsAt rows i) ∧
    nw = (T, ({ cls := .type "list", data := .seq tv.toArray k2 } : Obj)) :: (S, ({ cls := .type "list", data := .seq sv.toArray k1 } : Obj)) :: (D, LCg.lst ds) :: (R, LCg.lst (as.map Value.ref)) :: cellsL L o1 o2 o3 o4 o5 o6 o7 rest
end Mine
end
section
set_option maxRecDepth 100000
set_option maxHeartbeats 8000000
set_option linter.unusedVariables false
namespace Mine
open PySem PySem.W PySem.Calls PyProof.Rows
/-- a turn's end: the ledger as it was, and what holds of the list -/
noncomputable def TEnd (h₀ : Heap) (L : Addr) (m : Str → Option Value) (s : Shared) (all : List (Addr × Obj)) (J : List Value → Prop) (ys : List Value) (s' : Shared) : Prop :=
  ∃ h' tk', s' = { s with heap := h', toks := tk' } ∧ Fr h₀ L h' m ∧ News h₀ L h' all ∧ J ys
section
variable {prog : Program} {w : World} {A : Around} {s : Shared} {h₀ : Heap} {L : Addr} {m : Str → Option Value} {env : Env}
theorem restT_inv {ct elt : Expr} {x : Str} {scope : Scope} {cl : List (Str × Addr)} {S : List (Addr × Obj) → Prop} {P : Nat → Value → Prop} {Fin : List Value → List (Addr × Obj) → Prop} {news : List (Addr × Obj)} (n : Nat)
    (J : Nat → List Value → Prop) (hS : S news)
    (turn : ∀ i v I oI C oC D m₂ h tk ys (E' : Value → Shared → Prop), i < n → P i v → J i ys → LCg.NsObj oC m₂ → m₂ x = some v → Fr h₀ L h m → News h₀ L h ((I, oI) :: (C, oC) :: (D, LCg.lst ys) :: news) →
      wpAny (model prog w) A (isTrue ct (compEnvC scope cl C env) (eval ct (compEnvC scope cl C env))) (fun ok s' => if ok = true then
        wpAny (model prog w) A (eval elt (compEnvC scope cl C env)) (fun y s'' => TEnd h₀ L m { s with heap := h, toks := tk } ((I, oI) :: (C, oC) :: (D, LCg.lst ys) :: news) (J (i + 1)) (ys ++ [y]) s'') E' s'
        else TEnd h₀ L m { s with heap := h, toks := tk } ((I, oI) :: (C, oC) :: (D, LCg.lst ys) :: news) (J (i + 1)) ys s') E' { s with heap := h, toks := tk })
    (done : ∀ ys, J n ys → Fin ys news) :
    ∀ k i ys, i + k = n → J i ys → LCt.CompRestT prog w A h₀ L m env ct elt x scope cl s S P Fin k i ys news := by
  intro k
  induction k with
  | zero =>
    intro i ys hi hJ
    have : i = n := by omega
    subst this
    exact LCt.CompRestT.zero (done ys hJ)
  | succ k ih =>
    intro i ys hi hJ
    refine LCt.CompRestT.succ fun v I oI C oC D m₂ h tk E' hP hN hm F N off ne => ?_
    refine wpAny_mono (turn i v I oI C oC D m₂ h tk ys E' (by omega) hP hJ hN hm F N) (fun ok s' h' => ?_) fun _ _ e => e
    cases ok with
    | true =>
      rw [if_pos rfl] at h' ⊢
      refine wpAny_mono h' (fun y s'' h'' => ?_) fun _ _ e => e
      obtain ⟨h1, tk1, e, F1, N1, J1⟩ := h''
      exact ⟨h1, tk1, news, e, F1, N1, off, hS, ih (i + 1) _ (by omega) J1⟩
    | false =>
      rw [if_neg Bool.false_ne_true] at h' ⊢
      obtain ⟨h1, tk1, e, F1, N1, J1⟩ := h'
      exact ⟨h1, tk1, news, e, F1, N1, off, hS, ih (i + 1) _ (by omega) J1⟩
end
noncomputable def PlacesJ (c i : Nat) (ys : List Value) : Prop := IntsAre ys (((List.range i).filter fun k => c / 2 ^ k % 2 == 1).map fun k => ((k : Nat) : Int))
theorem PlacesJ.yes {c i : Nat} {ys : List Value} (h : PlacesJ c i ys) (t : Tok) (hb : (c / 2 ^ i % 2 == 1) = true) : PlacesJ c (i + 1) (ys ++ [.int (i : Int) t]) := by
  unfold PlacesJ at *
  rw [List.range_succ, List.filter_append, List.map_append]
  refine h.append ?_
  rw [List.filter_cons, hb]
  exact .cons _ _ .nil
theorem PlacesJ.no {c i : Nat} {ys : List Value} (h : PlacesJ c i ys) (hb : (c / 2 ^ i % 2 == 1) = false) : PlacesJ c (i + 1) ys := by
  unfold PlacesJ at *
  rw [List.range_succ, List.filter_append, List.map_append, List.filter_cons, hb]
  simpa using h
theorem bit_is (i j : Nat) : (((i : Nat) : Int).fdiv (2 ^ (((j : Nat) : Int)).toNat)).fmod 2 = ((i / 2 ^ j % 2 : Nat) : Int) := by
  rw [Int.toNat_natCast, Int.fdiv_eq_ediv_of_nonneg _ (Int.pow_nonneg (by decide)), Int.fmod_eq_emod_of_nonneg _ (by decide)]
  rw [show ((2 : Int) ^ j) = ((2 ^ j : Nat) : Int) from by rw [Int.natCast_pow]; rfl]
  rfl
theorem bit_yes {i j : Nat} (h : (((i : Nat) : Int).fdiv (2 ^ (((j : Nat) : Int)).toNat)).fmod 2 = 1) : (i / 2 ^ j % 2 == 1) = true := by
  rw [bit_is] at h
  rw [beq_iff_eq]; omega
theorem bit_no {i j : Nat} (h : (((i : Nat) : Int).fdiv (2 ^ (((j : Nat) : Int)).toNat)).fmod 2 ≠ 1) : (i / 2 ^ j % 2 == 1) = false := by
  rw [bit_is] at h
  rw [beq_eq_false_iff_ne]; omega
/-- the chosen among them -/
noncomputable def pickRows (rows : List (List (List Nat × List Nat))) (c : Nat) : List (List (List Nat × List Nat)) := (placesOf c).map fun k => rows.getD k []
noncomputable def pickAs (as : List Addr) (c : Nat) : List Addr := (placesOf c).map fun k => as.getD k 0
theorem place_lt {c k : Nat} (h : k ∈ placesOf c) : k < 4 := List.mem_range.mp (List.mem_filter.mp h).1
theorem RowsIn.pick {rest : List (Addr × Obj)} {rows : List (List (List Nat × List Nat))} {as : List Addr} (h : RowsIn rest rows as) (h4 : rows.length = 4) (c : Nat) : RowsIn rest (pickRows rows c) (pickAs as c) := by
  refine ⟨by simp [pickRows, pickAs], fun j row hj => ?_⟩
  unfold pickRows at hj
  rw [List.getElem?_map, Option.map_eq_some_iff] at hj
  obtain ⟨k, hk, rfl⟩ := hj
  have h1 := place_lt (List.mem_of_getElem? hk)
  have h2 : rows[k]? = some (rows.getD k []) := by rw [List.getD_eq_getElem?_getD, List.getElem?_eq_getElem (by omega)]; rfl
  obtain ⟨a, e1, e2⟩ := h.2 k _ h2
  refine ⟨a, ?_, e2⟩
  unfold pickAs
  rw [List.getElem?_map, hk, Option.map_some, List.getD_eq_getElem?_getD, e1]; rfl
theorem pick_ok {rows : List (List (List Nat × List Nat))} (h : ∀ row ∈ rows, RowOk row) (h4 : rows.length = 4) (c : Nat) : ∀ row ∈ pickRows rows c, RowOk row := fun row hr => by
  obtain ⟨k, hk, rfl⟩ := List.mem_map.mp hr
  have h1 := place_lt hk
  refine h _ ?_
  rw [List.getD_eq_getElem?_getD, List.getElem?_eq_getElem (by omega)]
  exact List.getElem_mem _
theorem places_len (c : Nat) : (placesOf c).length ≤ 4 := by
  have := List.length_filter_le (fun k => c / 2 ^ k % 2 == 1) (List.range 4)
  simpa [placesOf] using this
/-- items picked so far -/
noncomputable def PickJ (f : Nat → Value) (c : Nat) (base : List (Addr × Obj)) (i : Nat) (ys : List Value) (nw : List (Addr × Obj)) : Prop := nw = base ∧ ys = ((placesOf c).take i).map f
theorem PickJ.step {f : Nat → Value} {c : Nat} {base nw : List (Addr × Obj)} {i k : Nat} {ys : List Value} (h : PickJ f c base i ys nw) (hk : (placesOf c)[i]? = some k) : PickJ f c base (i + 1) (ys ++ [f k]) nw := by
  refine ⟨h.1, ?_⟩
  rw [List.take_add_one, hk, List.map_append, h.2]; rfl
theorem place_at {ys : List Value} {c i : Nat} {v : Value} (h : IntsAre ys ((placesOf c).map fun k => ((k : Nat) : Int))) (hv : ys.toArray[i]? = some v) : ∃ (k : Nat) (t : Tok), v = .int (k : Int) t ∧ (placesOf c)[i]? = some k ∧ k < 4 := by
  obtain ⟨n, t, rfl, hn⟩ := h.at i v (by simpa using hv)
  rw [List.getElem?_map, Option.map_eq_some_iff] at hn
  obtain ⟨k, hk, rfl⟩ := hn
  exact ⟨k, t, rfl, hk, place_lt (List.mem_of_getElem? hk)⟩
theorem pick_item {as : List Addr} {k : Nat} (h : as.length = 4) (hk : k < 4) : (as.map Value.ref).toArray[((k : Nat) : Int).toNat]? = some (.ref (as.getD k 0)) := by
  rw [Int.toNat_natCast, List.getElem?_toArray, List.getElem?_map, List.getD_eq_getElem?_getD, List.getElem?_eq_getElem (by omega)]; rfl
theorem pick_refs (as : List Addr) (c n : Nat) (h : (placesOf c).length ≤ n) : ((placesOf c).take n).map (fun k => Value.ref (as.getD k 0)) = (pickAs as c).map Value.ref := by
  rw [List.take_of_length_le h]; unfold pickAs; rw [List.map_map]; rfl
theorem item_ref {prog : Program} {w : World} {A : Around} {E : Value → Shared → Prop} {s : Shared} {value slice : PySem.Expr} {h₀ : Heap} {L l : Addr} {as : List Addr} {k : Nat} {u : Tok} {news : List (Addr × Obj)} {Q : Value → Shared → Prop}
    (N : News h₀ L s.heap news) (hm : (l, LCg.lst (as.map Value.ref)) ∈ news) (h4 : as.length = 4) (hk : k < 4) (h : Q (.ref (as.getD k 0)) s)
    (hs : subscripted slice false (.ref l) (.int (k : Int) u) = operate [.ref l, .int (k : Int) u] (getItem (.ref l) (.int (k : Int) u)) := by with_unfolding_all rfl) :
    wpAny (model prog w) A (subscriptTail value slice (.ref l) (.int (k : Int) u)) Q E s :=
  item_at (N.isList hm) (Int.natCast_nonneg k) (by omega) (by have := pick_item h4 hk; rwa [List.getElem?_toArray] at this) h hs
theorem item_str {prog : Program} {w : World} {A : Around} {E : Value → Shared → Prop} {s : Shared} {value slice : PySem.Expr} {h₀ : Heap} {L l : Addr} {ds : List Value} {k : Nat} {u : Tok} {news : List (Addr × Obj)} {Q : Value → Shared → Prop}
    (N : News h₀ L s.heap news) (hm : (l, LCg.lst ds) ∈ news) (h4 : ds.length = 4) (hk : k < 4) (h : Q (ds.getD k .none) s)
    (hs : subscripted slice false (.ref l) (.int (k : Int) u) = operate [.ref l, .int (k : Int) u] (getItem (.ref l) (.int (k : Int) u)) := by with_unfolding_all rfl) :
    wpAny (model prog w) A (subscriptTail value slice (.ref l) (.int (k : Int) u)) Q E s :=
  item_at (N.isList hm) (Int.natCast_nonneg k) (by omega) (by rw [Int.toNat_natCast, List.getD_eq_getElem?_getD, List.getElem?_eq_getElem (by omega)]; rfl) h hs
theorem strs_len : ∀ {vs : List Value} {ss : List Str}, StrsAre vs ss → vs.length = ss.length
  | _, _, .nil => rfl
  | _, _, .cons _ _ h => by rw [List.length_cons, List.length_cons, strs_len h]
theorem strs_at : ∀ {vs : List Value} {ss : List Str}, StrsAre vs ss → ∀ k, k < ss.length → ∃ t, vs.getD k .none = .str (ss.getD k (Str.ofString "")) t
  | _, _, .nil, k, h => by simp at h
  | _, _, .cons y t h, 0, _ => ⟨t, rfl⟩
  | _, _, .cons y t h, k + 1, hk => by
    rw [List.getD_cons_succ, List.getD_cons_succ]
    exact strs_at h k (by simpa using hk)
theorem strs_pick {ds : List Value} {rows : List (List (List Nat × List Nat))} (h : StrsAre ds (rows.map fun r => strOf (dueOf r))) (h4 : rows.length = 4) :
    ∀ (js : List Nat), (∀ k ∈ js, k < 4) → StrsAre (js.map fun k => ds.getD k .none) ((js.map fun k => rows.getD k []).map fun r => strOf (dueOf r))
  | [], _ => .nil
  | k :: js, hk => by
    obtain ⟨t, e⟩ := strs_at h k (by rw [List.length_map, h4]; exact hk k (.head _))
    have h1 := hk k (.head _)
    rw [List.map_cons, List.map_cons, List.map_cons, e]
    have e2 : (rows.map fun r => strOf (dueOf r)).getD k (Str.ofString "") = strOf (dueOf (rows.getD k [])) := by
      rw [List.getD_eq_getElem?_getD, List.getElem?_map, List.getD_eq_getElem?_getD, List.getElem?_eq_getElem (by omega)]; rfl
    rw [e2]
    exact .cons _ _ (strs_pick h h4 js fun x hx => hk x (.tail _ hx))
theorem flat_len' (rows : List (List (List Nat × List Nat))) : ∀ js : List Nat, ((js.map fun k => rows.getD k []).flatMap dueOf).length = (js.map (dlen rows)).sum
  | [] => rfl
  | k :: js => by
    rw [List.map_cons, List.flatMap_cons, List.length_append, flat_len' rows js, List.map_cons, List.sum_cons]; rfl
theorem mail_len (rows : List (List (List Nat × List Nat))) (c : Nat) : (⟨((pickRows rows c).flatMap dueOf).toArray⟩ : Str).length = mlen rows c := by
  show ((pickRows rows c).flatMap dueOf).toArray.size = _
  rw [List.size_toArray]
  exact flat_len' rows (placesOf c)
theorem mlen_le {rows : List (List (List Nat × List Nat))} (h : ∀ row ∈ rows, RowOk row) (h4 : rows.length = 4) (c : Nat) : mlen rows c ≤ 320 := by
  have h1 := dues_sum (pickRows rows c) (pick_ok h h4 c)
  have h2 : (pickRows rows c).length ≤ 4 := by unfold pickRows; rw [List.length_map]; exact places_len c
  have h3 : ∀ js : List Nat, (((js.map fun k => rows.getD k []).map fun r => strOf (dueOf r)).map (·.length)).sum = (js.map (dlen rows)).sum := by
    intro js
    induction js with
    | nil => rfl
    | cons k js ih => rw [List.map_cons, List.map_cons, List.map_cons, List.sum_cons, ih, List.map_cons, List.sum_cons]; rfl
  have h4' : (((pickRows rows c).map fun r => strOf (dueOf r)).map (·.length)).sum = mlen rows c := h3 (placesOf c)
  omega
section
variable {prog : Program} {w : World} {A : Around} {s : Shared} {h₀ : Heap} {L : Addr} {m : Str → Option Value} {env : Env}
theorem append_led {E : Value → Shared → Prop} {S : Addr} {sv : List Value} {k : Nat} {y : Value} {own post : List (Addr × Obj)} {Q : Value → Shared → Prop} (F : Fr h₀ L s.heap m)
    (N : News h₀ L s.heap (own ++ (S, ({ cls := .type "list", data := .seq sv.toArray k } : Obj)) :: post)) (h1 : ∀ p ∈ own, p.1 ≠ S) (h2 : ∀ p ∈ post, p.1 ≠ S) (hz : sv.length ≤ sizeLine)
    (h : ∀ h', Fr h₀ L h' m → News h₀ L h' (own ++ (S, ({ cls := .type "list", data := .seq (sv ++ [y]).toArray (k + 1) } : Obj)) :: post) → Q .none { s with heap := h' }) :
    wpAny (model prog w) A (call (.builtin "list.append") [.ref S, y]) Q E s := by
  have hm := N _ (List.mem_append_right _ (.head _))
  refine append_at (hsz := by rw [List.size_toArray]; exact hz) hm.1 fun h' hs hD => h h' (F.change hs hm.2.1 hm.2.2) (N.setAt h1 h2 hs ?_)
  rw [hD, List.push_toArray]
theorem rest_inv {elt : Expr} {x : Str} {scope : Scope} {cl : List (Str × Addr)} {S : List (Addr × Obj) → Prop} {P : Nat → Value → Prop} {Fin : List Value → List (Addr × Obj) → Prop} {news : List (Addr × Obj)} (n : Nat)
    (J : Nat → List Value → Prop) (hS : S news)
    (turn : ∀ i v I oI C oC D m₂ h tk ys (E' : Value → Shared → Prop), i < n → P i v → J i ys → LCg.NsObj oC m₂ → m₂ x = some v → Fr h₀ L h m → News h₀ L h ((I, oI) :: (C, oC) :: (D, LCg.lst ys) :: news) →
      wpAny (model prog w) A (eval elt (compEnvC scope cl C env)) (fun y s'' => TEnd h₀ L m { s with heap := h, toks := tk } ((I, oI) :: (C, oC) :: (D, LCg.lst ys) :: news) (J (i + 1)) (ys ++ [y]) s'') E' { s with heap := h, toks := tk })
    (done : ∀ ys, J n ys → Fin ys news) :
    ∀ k i ys, i + k = n → J i ys → LCg.CompRest prog w A h₀ L m env elt x scope cl s S P Fin k i ys news := by
  intro k
  induction k with
  | zero =>
    intro i ys hi hJ
    have : i = n := by omega
    subst this
    exact LCg.CompRest.zero (done ys hJ)
  | succ k ih =>
    intro i ys hi hJ
    refine LCg.CompRest.succ fun v I oI C oC D m₂ h tk E' hP hN hm F N off ne => ?_
    refine wpAny_mono (turn i v I oI C oC D m₂ h tk ys E' (by omega) hP hJ hN hm F N) (fun y s'' h'' => ?_) fun _ _ e => e
    obtain ⟨h1, tk1, e, F1, N1, J1⟩ := h''
    exact ⟨h1, tk1, news, e, F1, N1, off, hS, ih (i + 1) _ (by omega) J1⟩
end
theorem sizes_yes {rows : List (List (List Nat × List Nat))} {i : Nat} (h : (placesOf i).length = 1) : sizesAt rows (i + 1) = sizesAt rows i ++ [((mlen rows i : Nat) : Int)] := by
  unfold sizesAt
  rw [List.range_succ, List.filter_append, List.map_append, List.filter_cons, h]; rfl
theorem sizes_no {rows : List (List (List Nat × List Nat))} {i : Nat} (h : (placesOf i).length ≠ 1) : sizesAt rows (i + 1) = sizesAt rows i := by
  unfold sizesAt
  rw [List.range_succ, List.filter_append, List.map_append, List.filter_cons, beq_eq_false_iff_ne.mpr h]; simp
/-- the sums told so far -/
noncomputable def RestsJ (rows : List (List (List Nat × List Nat))) (c j : Nat) (ys : List Value) : Prop :=
  IntsAre ys ((List.range j).map fun k => ((List.range (c + 1)).map fun c => sideOf c * ((mlen rows c : Nat) : Int) ^ k).sum)
theorem RestsJ.step {rows : List (List (List Nat × List Nat))} {c j : Nat} {ys : List Value} (h : RestsJ rows c j ys) {r : Int} (hr : r = ((List.range c).map fun c => sideOf c * ((mlen rows c : Nat) : Int) ^ j).sum) (t : Tok) {z : Int} (hz : z = r + sideOf c * ((mlen rows c : Nat) : Int) ^ j) :
    RestsJ rows c (j + 1) (ys ++ [.int z t]) := by
  unfold RestsJ at *
  rw [List.range_succ (n := j), List.map_append]
  refine h.append ?_
  rw [hz, hr, List.map_singleton]
  have : ((List.range (c + 1)).map fun c => sideOf c * ((mlen rows c : Nat) : Int) ^ j).sum = ((List.range c).map fun c => sideOf c * ((mlen rows c : Nat) : Int) ^ j).sum + sideOf c * ((mlen rows c : Nat) : Int) ^ j := by
    rw [List.range_succ, List.map_append, List.sum_append]; simp
  rw [this]
  exact .cons _ _ .nil
theorem item_int {prog : Program} {w : World} {A : Around} {E : Value → Shared → Prop} {s : Shared} {value slice : PySem.Expr} {h₀ : Heap} {L l : Addr} {vs : List Value} {ns : List Int} {kk k : Nat} {u : Tok} {news : List (Addr × Obj)} {Q : Value → Shared → Prop}
    (N : News h₀ L s.heap news) (hm : (l, ({ cls := .type "list", data := .seq vs.toArray kk } : Obj)) ∈ news) (hi : IntsAre vs ns) (hk : k < ns.length) (hk4 : k < 1000) (h : ∀ t, Q (.int (ns.getD k 0) t) s)
    (hs : subscripted slice false (.ref l) (.int (k : Int) u) = operate [.ref l, .int (k : Int) u] (getItem (.ref l) (.int (k : Int) u)) := by with_unfolding_all rfl) :
    wpAny (model prog w) A (subscriptTail value slice (.ref l) (.int (k : Int) u)) Q E s := by
  have hl := hi.length
  obtain ⟨t, e⟩ := hi.int_at k vs[k] (List.getElem?_eq_getElem (by omega))
  refine item_at (N.isList hm) (Int.natCast_nonneg k) (by omega) (v := .int (ns.getD k 0) t) ?_ (h t) hs
  rw [Int.toNat_natCast, ← e]
  exact List.getElem?_eq_getElem (by omega)
theorem rests_len (rows : List (List (List Nat × List Nat))) (i : Nat) : (restsAt rows i).length = 7 := by unfold restsAt; simp
theorem rests_at (rows : List (List (List Nat × List Nat))) (i j : Nat) (h : j < 7) : (restsAt rows i).getD j 0 = ((List.range i).map fun c => sideOf c * ((mlen rows c : Nat) : Int) ^ j).sum := by
  unfold restsAt
  rw [List.getD_eq_getElem?_getD, List.getElem?_map, List.getElem?_range h]; rfl
theorem side_is (c : Nat) : 1 - 2 * Int.fmod (((placesOf c).length : Nat) : Int) 2 = sideOf c := by
  unfold sideOf
  rw [Int.fmod_eq_emod_of_nonneg _ (by decide)]; rfl
theorem side_or (c : Nat) : sideOf c = 1 ∨ sideOf c = -1 := by unfold sideOf; omega
theorem side_mul (c : Nat) (z : Int) : PySem.IntMulOk (sideOf c) z := by
  refine PySem.IntMulOk.of_left ?_
  rcases side_or c with h | h <;> rw [h] <;> decide +kernel
theorem m_places (m₀ : Str → Option Value) (a b : Value) (u : Option Value) : (fun y => if y = Str.ofString "places" then some a else if y = Str.ofString "sizes" then some b else if y = Str.ofString "places" then u else m₀ y) =
    fun y => if y = Str.ofString "sizes" then some b else if y = Str.ofString "places" then some a else m₀ y := by
  have n1 : Str.ofString "places" ≠ Str.ofString "sizes" := by decide
  generalize Str.ofString "places" = p at *
  generalize Str.ofString "sizes" = q at *
  funext y
  by_cases h1 : y = p
  · subst h1; simp [n1]
  · by_cases h2 : y = q
    · subst h2; simp [h1]
    · simp [h1, h2]
theorem sizes_len (rows : List (List (List Nat × List Nat))) (i : Nat) : (sizesAt rows i).length ≤ i := by
  unfold sizesAt
  rw [List.length_map]
  have := List.length_filter_le (fun c => (placesOf c).length == 1) (List.range i)
  simpa using this
end Mine
end
section
theorem Mine.fresh_WLawC3 : True := by w_top off; trivial
set_option maxRecDepth 100000
set_option maxHeartbeats 8000000
set_option linter.unusedVariables false
namespace Mine
open PySem PySem.W PySem.Calls PyProof.Rows
example : (fun P => KK P) = KK ∧ PySem.Challenge.rw_st0021_01 = PySem.Challenge.rw_st0021_01 := by k_fill; exact ⟨rfl, rfl⟩
local macro_rules | `(tactic| k_ne) => `(tactic| (refine neN ?_; (try dsimp only); (first | assumption | exact Ne.symm (by assumption) | (simp only [*, ne_eq, not_false_eq_true]; done) | (refine Ne.symm ?_; simp only [*, ne_eq, not_false_eq_true]; done) | omega)))
local macro_rules | `(tactic| k_all) => `(tactic| exact restNe (by assumption) (by (try dsimp only); omega) (by (try dsimp only); omega))
local macro_rules | `(tactic| walk_at "call ref") => `(tactic| (refine stop_here ?_))
local macro_rules | `(tactic| walk_at "binaryOp Add ref ref") => `(tactic| (refine stop_here ?_))
local macro_rules | `(tactic| walk_at "call builtin:str.join") => `(tactic| (refine stop_here ?_))
local macro_rules | `(tactic| walk_at "eval ListComp") => `(tactic| (refine stop_here ?_))
local macro_rules | `(tactic| walk_at "exec Assign cons ListComp") => `(tactic| (refine stop_here ?_))
local macro_rules | `(tactic| walk_at "subscriptTail") => `(tactic| (refine stop_here ?_))
local macro_rules | `(tactic| walk_at "binaryOp Pow int int") => `(tactic| (refine stop_here ?_))
local macro_rules | `(tactic| walk_at "call builtin:len") => `(tactic| (refine stop_here ?_))
local macro_rules | `(tactic| walk_at "CompSrc") => `(tactic| (refine stop_here ?_))
set_option pp.deepTerms.threshold 8
noncomputable def loopBody : List Stmt := match dLaw.body.getD 7 (.Pass default) with | .For _ _ b _ _ => b | _ => []
theorem stageC3 {w : World} {mean : ExcName → Option Value} {mg mb : Str → Option Value} {h₀ : Heap} {L fa : Addr} {ccd : Value} {s : Shared} {m₀ : Str → Option Value} {Q : Flow → Shared → Prop} {E : Value → Shared → Prop}
    (KX : (KK w.params).In h₀) (GL : Glob 0 mg mb (List.map W.itemOf (recsOf qv)) (scalarsOf [] ++ constsW qv) [] (namesW qv looseN) h₀) (KT : Top qv (looseW qv looseN) mean mg mb h₀)
    {R D S T P I : Addr} {as : List Addr} {ds ys sv tv : List Value} {rows : List (List (List Nat × List Nat))} {rest : List (Addr × Obj)} (l1 : @LT.lt Nat _ (L + 7) R) (l2 : @LT.lt Nat _ R D) (l3 : @LT.lt Nat _ D S) (l4 : (@Ne Nat S T ∧ @Ne Nat D T ∧ @Ne Nat R T ∧ (@LE.le Nat _ T L ∨ @LT.lt Nat _ (L + 7) T)))
    {i : Nat} (hi : i < 16) {u v1 v7 : Option Value} {k1 k2 : Nat} {o1 o2 o3 o4 o5 o6 o7 oI : Obj} {t : Tok}
    (F : Fr h₀ L s.heap (fun y => if y = Str.ofString "places" then some (.ref P) else if y = Str.ofString "sizes" then some (.ref S) else if y = Str.ofString "places" then u else m₀ y))
    (N : News h₀ L s.heap ((P, LCg.lst ys) :: (I, oI) :: (T, ({ cls := .type "list", data := .seq tv.toArray k2 } : Obj)) :: (S, ({ cls := .type "list", data := .seq sv.toArray k1 } : Obj)) :: (D, LCg.lst ds) :: (R, LCg.lst (as.map Value.ref)) :: cellsL L o1 o2 o3 o4 o5 o6 o7 rest))
    (offP : LCg.Off1 P ((I, oI) :: (T, ({ cls := .type "list", data := .seq tv.toArray k2 } : Obj)) :: (S, ({ cls := .type "list", data := .seq sv.toArray k1 } : Obj)) :: (D, LCg.lst ds) :: (R, LCg.lst (as.map Value.ref)) :: cellsL L o1 o2 o3 o4 o5 o6 o7 rest))
    (offI : LCg.Off1 I ((T, ({ cls := .type "list", data := .seq tv.toArray k2 } : Obj)) :: (S, ({ cls := .type "list", data := .seq sv.toArray k1 } : Obj)) :: (D, LCg.lst ds) :: (R, LCg.lst (as.map Value.ref)) :: cellsL L o1 o2 o3 o4 o5 o6 o7 rest))
    (d1 : o1.data = .cell v1) (d2 : o2.data = .cell (some (.ref R))) (d3 : o3.data = .cell (some (.ref D))) (d4 : o4.data = .cell (some (.ref T))) (d5 : o5.data = .cell (some (.int (i : Int) t))) {X : Str} {tx : Tok} (d6 : o6.data = .cell (some (.str X tx))) (hX : X.length = mlen rows i) (d7 : o7.data = .cell v7)
    (hsv : IntsAre sv (sizesAt rows (i + 1))) (htv : IntsAre tv (restsAt rows i)) (hP : IntsAre ys ((placesOf i).map fun k => ((k : Nat) : Int)))
    (hok : RestOk L rest) (hlt : ∀ p ∈ rest, p.1 ≠ S) (hrows : RowsIn rest rows as) (h4 : rows.length = 4)
    (hds : StrsAre ds (rows.map fun r => strOf (dueOf r))) (hgood : ∀ row ∈ rows, RowOk row)
    (hQ : ∀ h' tk' m' nw', Fr h₀ L h' m' → News h₀ L h' ((I, oI) :: nw') → (∀ p ∈ nw', p.1 ≠ I) → LoopJ L R D S m₀ rest rows as ds (i + 1) m' nw' → Q .next { s with heap := h', toks := tk' }) :
    wpAny (model pw w) (callerA.deeper (envOfC dLaw.name dLaw.scope L fa ccd)) (execs (loopBody.drop 4) (envOfC dLaw.name dLaw.scope L fa ccd)) Q E s := by
  have tL : @Ne Nat T (L + 1) ∧ @Ne Nat T (L + 1 + 1) ∧ @Ne Nat T (L + 1 + 1 + 1) ∧ @Ne Nat T (L + 1 + 1 + 1 + 1) ∧ @Ne Nat T (L + 1 + 1 + 1 + 1 + 1) ∧ @Ne Nat T (L + 1 + 1 + 1 + 1 + 1 + 1) ∧ @Ne Nat T (L + 1 + 1 + 1 + 1 + 1 + 1 + 1) := by omega
  simp only [LCg.Off1, cellsL] at offP offI
  dsimp only [cellsL] at N
  have hpl := places_len i
  have hXb : X.length ≤ 320 := hX ▸ mlen_le hgood h4 i
  k_steps
  unfold Stop
  refine len_ints_fit (News.isList N (.head _)) hP (by rw [List.length_map]; exact Nat.lt_of_le_of_lt hpl (by decide)) ?_
  rw [List.length_map]
  k_steps
  unfold Stop
  rename Fr _ _ _ _ => F9
  rename News _ _ _ _ => N9
  rename (Obj.data _ = _) => d7'
  rw [side_is] at d7'
  refine wpAny_Assign_Name ?_
  refine LCg.ListComp_U F9 (by with_unfolding_all rfl) (by decide) (by rfl) (by decide) (by rfl) ?_ (fun _ => rfl)
  k_steps
  (try unfold Stop)
  rename IsRange _ _ _ _ _ _ _ _ => hr4
  rename Fr _ _ _ _ => F6
  rename News _ _ _ _ => N6
  refine LCg.CompSrc.range rfl F6 N6 hr4 (by decide) (n := 7) (by decide) (Nat.le_of_ble_eq_true rfl) fun g => rest_inv 7 (RestsJ rows i) trivial ?turnQ ?doneQ 7 0 [] rfl .nil
  case turnQ =>
    intro j v I3 oI3 C3 oC3 D3 m3 h3 tk3 ys3 E3 hj hv hJ3 hN3 hm3 F7 N7
    obtain ⟨t3, rfl⟩ := hv
    rw [Int.zero_add] at hm3
    clear F6 N6 hr4
    k_steps
    unfold Stop
    refine item_int N7 (.tail _ (.tail _ (.tail _ (.tail _ (.tail _ (.head _)))))) htv (by rw [rests_len]; exact hj) (by omega) fun t4 => ?_
    rw [rests_at rows i j hj]
    k_steps
    unfold Stop
    refine SBL.len (by omega) ?_
    rw [hX]
    k_steps
    unfold Stop
    refine pow_int_small (Int.natCast_nonneg j) (by omega) (by have := mlen_le hgood h4 i; rw [Int.natAbs_natCast]; omega) ?_
    rw [Int.toNat_natCast]
    k_steps
    refine mul_int ?_ (side_mul i _)
    k_steps
    exact ⟨_, _, rfl, F7, N7, hJ3.step rfl _ rfl⟩
  case doneQ =>
    intro zs hzs D8 h8 tk8 F8 N8 off8
    simp only [LCg.Off1] at off8
    clear F6 N6 hr4
    k_steps
    rename Fr _ _ _ _ => F20
    rename News _ _ _ _ => N20
    refine hQ _ _ _ _ F20 (subNews N20 (b := (I, oI) :: (D8, LCg.lst zs) :: (S, ({ cls := .type "list", data := .seq sv.toArray k1 } : Obj)) :: (D, LCg.lst ds) :: (R, LCg.lst (as.map Value.ref)) :: cellsL L _ _ _ _ _ _ _ rest) ?sub) ?off ⟨some (.ref P), D8, sv, zs, k1, zs.length, _, _, _, _, _, _, _, _, _, _, _, m_places m₀ _ _ u, ?ne, d1, d2, d3, by assumption, d5, d6, d7', hsv, hzs, rfl⟩
    case sub =>
      intro p hp
      rcases List.mem_cons.mp hp with rfl | hp
      · exact .tail _ (.tail _ (.head _))
      rcases List.mem_cons.mp hp with rfl | hp
      · exact .head _
      exact .tail _ (.tail _ (.tail _ (.tail _ hp)))
    case off => exact off1_to (show LCg.Off1 I ((D8, _) :: _) from ⟨Ne.symm off8.2.1, offI.2⟩)
    case ne => exact ⟨off8.2.2.2.1, off8.2.2.2.2.1, off8.2.2.2.2.2.1, by omega⟩
end Mine
end
section
theorem Mine.fresh_WLawC2 : True := by w_top off; trivial
set_option maxRecDepth 100000
set_option maxHeartbeats 8000000
set_option linter.unusedVariables false
namespace Mine
open PySem PySem.W PySem.Calls PyProof.Rows
example : (fun P => KK P) = KK ∧ PySem.Challenge.rw_st0021_01 = PySem.Challenge.rw_st0021_01 := by k_fill; exact ⟨rfl, rfl⟩
local macro_rules | `(tactic| k_ne) => `(tactic| (refine neN ?_; (try dsimp only); (first | assumption | exact Ne.symm (by assumption) | (simp only [*, ne_eq, not_false_eq_true]; done) | (refine Ne.symm ?_; simp only [*, ne_eq, not_false_eq_true]; done) | omega)))
local macro_rules | `(tactic| k_all) => `(tactic| exact restNe (by assumption) (by (try dsimp only); omega) (by (try dsimp only); omega))
local macro_rules | `(tactic| walk_at "call ref") => `(tactic| (refine stop_here ?_))
local macro_rules | `(tactic| walk_at "binaryOp Add ref ref") => `(tactic| (refine stop_here ?_))
local macro_rules | `(tactic| walk_at "call builtin:str.join") => `(tactic| (refine stop_here ?_))
local macro_rules | `(tactic| walk_at "eval ListComp") => `(tactic| (refine stop_here ?_))
local macro_rules | `(tactic| walk_at "exec Assign cons ListComp") => `(tactic| (refine stop_here ?_))
local macro_rules | `(tactic| walk_at "subscriptTail") => `(tactic| (refine stop_here ?_))
theorem stop_execs (n : Nat) {prog : Program} {w : World} {A : Around} {ts : List Expr} {v : Expr} {c e f : Nat} {r : List Stmt} {env : Env} {Q : Flow → Shared → Prop} {E : Value → Shared → Prop} {s : Shared}
    (h : Stop (wpAny (model prog w) A (execs (.Assign ts v { line := n, col := c, endLine := e, endCol := f } :: r) env) Q E s)) : wpAny (model prog w) A (execs (.Assign ts v { line := n, col := c, endLine := e, endCol := f } :: r) env) Q E s := h
local macro_rules | `(tactic| walk_at "execs cons") => `(tactic| (refine stop_execs 114 ?_))
local macro_rules | `(tactic| walk_at "call builtin:list.append") => `(tactic| (refine stop_here ?_))
set_option pp.deepTerms.threshold 8
theorem stageC2 {w : World} {mean : ExcName → Option Value} {mg mb : Str → Option Value} {h₀ : Heap} {L fa : Addr} {ccd : Value} {s : Shared} {m₀ : Str → Option Value} {Q : Flow → Shared → Prop} {E : Value → Shared → Prop}
    (KX : (KK w.params).In h₀) (GL : Glob 0 mg mb (List.map W.itemOf (recsOf qv)) (scalarsOf [] ++ constsW qv) [] (namesW qv looseN) h₀) (KT : Top qv (looseW qv looseN) mean mg mb h₀)
    {R D S T P I : Addr} {as : List Addr} {ds ys sv tv : List Value} {rows : List (List (List Nat × List Nat))} {rest : List (Addr × Obj)} (l1 : @LT.lt Nat _ (L + 7) R) (l2 : @LT.lt Nat _ R D) (l3 : @LT.lt Nat _ D S) (l4 : (@Ne Nat S T ∧ @Ne Nat D T ∧ @Ne Nat R T ∧ (@LE.le Nat _ T L ∨ @LT.lt Nat _ (L + 7) T)))
    {i : Nat} (hi : i < 16) {u v1 v6 v7 : Option Value} {k1 k2 : Nat} {o1 o2 o3 o4 o5 o6 o7 oI : Obj} {t : Tok}
    (F : Fr h₀ L s.heap (fun y => if y = Str.ofString "places" then some (.ref P) else if y = Str.ofString "sizes" then some (.ref S) else if y = Str.ofString "places" then u else m₀ y))
    (N : News h₀ L s.heap ((P, LCg.lst ys) :: (I, oI) :: (T, ({ cls := .type "list", data := .seq tv.toArray k2 } : Obj)) :: (S, ({ cls := .type "list", data := .seq sv.toArray k1 } : Obj)) :: (D, LCg.lst ds) :: (R, LCg.lst (as.map Value.ref)) :: cellsL L o1 o2 o3 o4 o5 o6 o7 rest))
    (offP : LCg.Off1 P ((I, oI) :: (T, ({ cls := .type "list", data := .seq tv.toArray k2 } : Obj)) :: (S, ({ cls := .type "list", data := .seq sv.toArray k1 } : Obj)) :: (D, LCg.lst ds) :: (R, LCg.lst (as.map Value.ref)) :: cellsL L o1 o2 o3 o4 o5 o6 o7 rest))
    (offI : LCg.Off1 I ((T, ({ cls := .type "list", data := .seq tv.toArray k2 } : Obj)) :: (S, ({ cls := .type "list", data := .seq sv.toArray k1 } : Obj)) :: (D, LCg.lst ds) :: (R, LCg.lst (as.map Value.ref)) :: cellsL L o1 o2 o3 o4 o5 o6 o7 rest))
    (d1 : o1.data = .cell v1) (d2 : o2.data = .cell (some (.ref R))) (d3 : o3.data = .cell (some (.ref D))) (d4 : o4.data = .cell (some (.ref T))) (d5 : o5.data = .cell (some (.int (i : Int) t))) (d6 : o6.data = .cell v6) (d7 : o7.data = .cell v7)
    (hsv : IntsAre sv (sizesAt rows i)) (htv : IntsAre tv (restsAt rows i)) (hP : IntsAre ys ((placesOf i).map fun k => ((k : Nat) : Int)))
    (hok : RestOk L rest) (hlt : ∀ p ∈ rest, p.1 ≠ S) (hrows : RowsIn rest rows as) (h4 : rows.length = 4)
    (hds : StrsAre ds (rows.map fun r => strOf (dueOf r))) (hgood : ∀ row ∈ rows, RowOk row)
    (hQ : ∀ h' tk' m' nw', Fr h₀ L h' m' → News h₀ L h' ((I, oI) :: nw') → (∀ p ∈ nw', p.1 ≠ I) → LoopJ L R D S m₀ rest rows as ds (i + 1) m' nw' → Q .next { s with heap := h', toks := tk' }) :
    wpAny (model pw w) (callerA.deeper (envOfC dLaw.name dLaw.scope L fa ccd)) (execs (loopBody.drop 1) (envOfC dLaw.name dLaw.scope L fa ccd)) Q E s := by
  have tL : @Ne Nat T (L + 1) ∧ @Ne Nat T (L + 1 + 1) ∧ @Ne Nat T (L + 1 + 1 + 1) ∧ @Ne Nat T (L + 1 + 1 + 1 + 1) ∧ @Ne Nat T (L + 1 + 1 + 1 + 1 + 1) ∧ @Ne Nat T (L + 1 + 1 + 1 + 1 + 1 + 1) ∧ @Ne Nat T (L + 1 + 1 + 1 + 1 + 1 + 1 + 1) := by omega
  simp only [LCg.Off1, cellsL] at offP offI
  dsimp only [cellsL] at N
  k_steps
  unfold Stop
  rename Fr _ _ _ _ => F9
  rename News _ _ _ _ => N9
  refine comp_calls F9 (by with_unfolding_all rfl) (by decide) (by rfl) (by decide) (by rfl) (by rfl) (fun _ => rfl) ?_
  k_steps
  refine ⟨_, _, _, _, PickJ (fun k => .ref (as.getD k 0)) i _, rfl, F9, N9, ?size, ⟨rfl, rfl⟩, fun i ys nw h => (by rw [h.1]; exact .head _), ?turnR, ?finR⟩
  case size => rw [List.size_toArray, hP.length, List.length_map]; exact Nat.le_trans (places_len i) (Nat.le_of_ble_eq_true rfl)
  case turnR =>
    intro j v h5 tk5 I5 oI5 C5 oC5 D5 m5 ys5 nw5 E5 hv hJ5 hcI5 hoC5 hm5 F10 N10 off10
    obtain ⟨k, tk, rfl, hk, hk4⟩ := place_at hP hv
    rw [hJ5.1] at N10
    clear N9 F9
    k_steps
    (try unfold Stop)
    refine item_ref N10 (.tail _ (.tail _ (.tail _ (.tail _ (.tail _ (.tail _ (.tail _ (.tail _ (.head _))))))))) (hrows.1.trans h4) hk4 ?_
    exact ⟨_, _, nw5, rfl, F10, by rw [hJ5.1]; exact N10, off10, hJ5.step hk⟩
  case finR =>
    intro D6 h6 tk6 ys6 nw6 hl6 hJ6 F11 N11 off11 _
    obtain ⟨rfl, rfl⟩ := hJ6
    rw [pick_refs as i _ (by rw [List.size_toArray, hP.length, List.length_map]; exact Nat.le_refl _)] at N11
    simp only [LCg.Off1] at off11
    clear N9 F9
    k_steps
    unfold Stop
    have hok2 := pick_ok hgood h4 i
    refine spec_use (spec_mail _ _ _ _ D6 (pickRows rows i) _ ((hrows.pick h4 i).at ?mono rfl (.head _)) ?l8 (fun row hr => (hok2 row hr).2.1) (rows_flat1 hok2)) (below_caller _) F11 KX N11 KT rfl ?hd ?hu ?_
    case mono => intro p hp; exact .tail _ (.tail _ (.tail _ (.tail _ (.tail _ (.tail _ (.tail _ (.tail _ (.tail _ (.tail _ (.tail _ (.tail _ (.tail _ (.tail _ hp)))))))))))))
    case l8 => unfold pickRows; rw [List.length_map]; exact Nat.le_trans (places_len i) (by decide)
    case hd => decide
    case hu => decide
    intro r' tl' h' tk' F5 N5 R'
    obtain ⟨⟨t5, hr1⟩, D9, o9, hr2⟩ := R'
    subst hr1 hr2
    replace N5 := drop2 N5
    rw [mail_due (pickRows rows i) fun row hr => (hok2 row hr).1]
    have hX := mail_len rows i
    have hjoin := due_join (pickRows rows i)
    have hsum := dues_sum (pickRows rows i) hok2
    generalize (⟨((pickRows rows i).flatMap dueOf).toArray⟩ : Str) = X at *
    clear F11 N11 off11
    k_steps
    unfold Stop
    rename Fr _ _ _ _ => F12
    rename News _ _ _ _ => N12
    refine comp_calls F12 (by with_unfolding_all rfl) (by decide) (by rfl) (by decide) (by rfl) (by rfl) (fun _ => rfl) ?_
    k_steps
    refine ⟨_, _, _, _, PickJ (fun k => ds.getD k .none) i _, rfl, F12, N12, ?size, ⟨rfl, rfl⟩, fun i ys nw h => (by rw [h.1]; exact .head _), ?turnD, ?finD⟩
    case size => rw [List.size_toArray, hP.length, List.length_map]; exact Nat.le_trans (places_len i) (Nat.le_of_ble_eq_true rfl)
    case turnD =>
      intro j v h5 tk5 I5 oI5 C5 oC5 D5 m5 ys5 nw5 E5 hv hJ5 hcI5 hoC5 hm5 F10 N10 off10
      obtain ⟨k, tk, rfl, hk, hk4⟩ := place_at hP hv
      rw [hJ5.1] at N10
      clear N12 F12
      k_steps
      (try unfold Stop)
      refine item_str N10 (.tail _ (.tail _ (.tail _ (.tail _ (.tail _ (.tail _ (.tail _ (.head _)))))))) ((strs_len hds).trans (by rw [List.length_map]; exact h4)) hk4 ?_
      exact ⟨_, _, nw5, rfl, F10, by rw [hJ5.1]; exact N10, off10, hJ5.step hk⟩
    case finD =>
      intro D8 h8 tk8 ys8 nw8 hl8 hJ8 F13 N13 off13 _
      obtain ⟨rfl, rfl⟩ := hJ8
      rw [List.take_of_length_le (by rw [List.size_toArray, hP.length, List.length_map]; exact Nat.le_refl _)] at N13
      simp only [LCg.Off1] at off13
      clear N12 F12
      k_steps
      unfold Stop
      refine join_list (ys := (pickRows rows i).map fun r => strOf (dueOf r)) (News.isList N13 (.head _)) (strs_pick hds h4 (placesOf i) fun k hk => place_lt hk) ?_ ?_
      · rw [show (Str.ofString "").length = 0 from by decide +kernel]
        have : (pickRows rows i).length ≤ 4 := by unfold pickRows; rw [List.length_map]; exact places_len i
        omega
      intro t7 k7
      rw [hjoin]
      k_steps
      · exact absurd (by assumption : (X != X) = true) (by simp)
      have hXb : X.length ≤ 320 := hX ▸ mlen_le hgood h4 i
      refine len_ints_fit (News.isList N13 (.tail _ (.head _))) hP (by rw [List.length_map]; exact Nat.lt_of_le_of_lt (places_len i) (by decide)) ?_
      rw [List.length_map]
      have hpl := places_len i
      replace N13 : News h₀ L h8 _ := subNews N13 fun p hp => .tail _ hp
      k_steps
      · unfold Stop
        refine append_led (own := [(P, _), (I, oI), (T, _)]) F13 N13 ?a1 ?a2 ?a3 ?_
        case a1 =>
          exact off1_to (show LCg.Off1 S ((P, _) :: (I, _) :: (T, _) :: []) from ⟨Ne.symm offP.2.2.1, Ne.symm offI.2.1, Ne.symm l4.1, trivial⟩)
        case a2 =>
          refine off1_to ?_
          simp only [LCg.Off1]
          exact ⟨by omega, by omega, by omega, by omega, by omega, by omega, by omega, by omega, by omega, off1_of hlt⟩
        case a3 =>
          rw [hsv.length]
          exact Nat.le_trans (sizes_len rows i) (Nat.le_trans (Nat.le_of_lt hi) (Nat.le_of_ble_eq_true rfl))
        intro h9 F14 N14
        have hone : (placesOf i).length = 1 := by omega
        k_steps
        unfold Stop
        refine stageC3 KX GL KT l1 l2 l3 l4 hi F14 N14 offP offI d1 d2 d3 d4 d5 (X := X) (by assumption) hX d7 (by rw [sizes_yes hone, ← hX]; exact hsv.append (.cons _ _ .nil)) htv hP hok hlt hrows h4 hds hgood hQ
      · unfold Stop
        have hone : (placesOf i).length ≠ 1 := by omega
        refine stageC3 KX GL KT l1 l2 l3 l4 hi F13 N13 offP offI d1 d2 d3 d4 d5 (X := X) (by assumption) hX d7 (by rw [sizes_no hone]; exact hsv) htv hP hok hlt hrows h4 hds hgood hQ
end Mine
end
section
theorem Mine.fresh_WLawC : True := by w_top off; trivial
set_option maxRecDepth 100000
set_option maxHeartbeats 8000000
set_option linter.unusedVariables false
namespace Mine
open PySem PySem.W PySem.Calls PyProof.Rows
example : (fun P => KK P) = KK ∧ PySem.Challenge.rw_st0021_01 = PySem.Challenge.rw_st0021_01 := by k_fill; exact ⟨rfl, rfl⟩
local macro_rules | `(tactic| k_all) => `(tactic| exact restNe (by assumption) (by (try dsimp only); omega) (by (try dsimp only); omega))
local macro_rules | `(tactic| walk_at "call ref") => `(tactic| (refine stop_here ?_))
local macro_rules | `(tactic| walk_at "binaryOp Add ref ref") => `(tactic| (refine stop_here ?_))
local macro_rules | `(tactic| walk_at "call builtin:str.join") => `(tactic| (refine stop_here ?_))
local macro_rules | `(tactic| walk_at "eval ListComp") => `(tactic| (refine stop_here ?_))
local macro_rules | `(tactic| walk_at "exec Assign cons ListComp") => `(tactic| (refine stop_here ?_))
set_option pp.deepTerms.threshold 8
theorem stageC {w : World} {mean : ExcName → Option Value} {mg mb : Str → Option Value} {h₀ : Heap} {L fa : Addr} {ccd : Value} {s : Shared} {m m₀ : Str → Option Value} {Q : Flow → Shared → Prop} {E : Value → Shared → Prop}
    (KX : (KK w.params).In h₀) (GL : Glob 0 mg mb (List.map W.itemOf (recsOf qv)) (scalarsOf [] ++ constsW qv) [] (namesW qv looseN) h₀) (KT : Top qv (looseW qv looseN) mean mg mb h₀) (F : Fr h₀ L s.heap m)
    {R D S : Addr} {as : List Addr} {ds : List Value} {rows : List (List (List Nat × List Nat))} {rest nw : List (Addr × Obj)} (l1 : @LT.lt Nat _ (L + 7) R) (l2 : @LT.lt Nat _ R D) (l3 : @LT.lt Nat _ D S)
    (N : News h₀ L s.heap nw) (hJ : LoopJ L R D S m₀ rest rows as ds 0 m nw) (hok : RestOk L rest) (hlt : ∀ p ∈ rest, p.1 ≠ S) (hrows : RowsIn rest rows as) (h4 : rows.length = 4)
    (hds : StrsAre ds (rows.map fun r => strOf (dueOf r))) (hgood : ∀ row ∈ rows, RowOk row) (hE : PassesOwn (model pw w) (callerA.deeper (envOfC dLaw.name dLaw.scope L fa ccd)) (envOfC dLaw.name dLaw.scope L fa ccd) E)
    (hQ : ∀ h' tk' m' nw', Fr h₀ L h' m' → News h₀ L h' nw' → LoopJ L R D S m₀ rest rows as ds 16 m' nw' → Q .next { s with heap := h', toks := tk' }) :
    wpAny (model pw w) (callerA.deeper (envOfC dLaw.name dLaw.scope L fa ccd)) (exec (dLaw.body.getD 7 (.Pass default)) (envOfC dLaw.name dLaw.scope L fa ccd)) Q E s := by
  with_unfolding_all refine for_any h₀ ?_ (fun _ => rfl) hE
  k_steps
  rename IsRange _ _ _ _ _ _ _ _ => hr
  rename Fr _ _ _ _ => F1
  rename News _ _ _ _ => N1
  refine ⟨_, _, _, _, _, 16, nw, m, LoopJ L R D S m₀ rest rows as ds, rfl, rfl, F1, N1, hr, by decide, by decide, hJ, ?turn, fun h tk m' nw' J' F' N' => hQ h tk m' nw' F' N' J'⟩
  (try clear N); (try clear F); clear hJ hQ
  intro i h tk I oI m1 nw1 t hi hcI hJ1 F2 N2 off2
  obtain ⟨u, T, sv, tv, k1, k2, o1, o2, o3, o4, o5, o6, o7, v1, v5, v6, v7, rfl, l4, d1, d2, d3, d4, d5, d6, d7, hsv, htv, rfl⟩ := hJ1
  have F3 : Fr h₀ L h (fun y => if y = Str.ofString "sizes" then some (.ref S) else if y = Str.ofString "places" then u else m₀ y) := F2
  have N3 : News h₀ L h ((I, oI) :: (T, ({ cls := .type "list", data := .seq tv.toArray k2 } : Obj)) :: (S, ({ cls := .type "list", data := .seq sv.toArray k1 } : Obj)) :: (D, LCg.lst ds) :: (R, LCg.lst (as.map Value.ref)) :: cellsL L o1 o2 o3 o4 o5 o6 o7 rest) := N2
  dsimp only [cellsL] at N3
  replace off2 := off1_of off2
  simp only [LCg.Off1, cellsL] at off2
  clear F2 N2 F1 N1
  k_steps
  unfold Stop
  rename Fr _ _ _ _ => F5
  rename News _ _ _ _ => N5
  refine LCt.Assign_ListComp_T F5 (by rfl) (by with_unfolding_all rfl) (by with_unfolding_all rfl) (by decide) (by rfl) (by decide) (by rfl) (by rfl) (by rfl) ?_
  k_steps
  rename IsRange _ _ _ _ _ _ _ _ => hr4
  rename Fr _ _ _ _ => F6
  rename News _ _ _ _ => N6
  refine LCt.CompSrcT.range rfl F6 N6 hr4 (by decide) (n := 4) (by decide) (Nat.le_of_ble_eq_true rfl) fun g => restT_inv 4 (PlacesJ i) trivial ?turnP ?doneP 4 0 [] rfl .nil
  case turnP =>
    intro j v I3 oI3 C3 oC3 D3 m3 h3 tk3 ys3 E3 hj hv hJ3 hN3 hm3 F7 N7
    obtain ⟨t3, rfl⟩ := hv
    rw [Int.zero_add] at hm3
    have hj0 : (0 : Int) ≤ (j : Int) := Int.natCast_nonneg j
    have hj4 : (j : Int) < 4 := by omega
    clear F6 N6 hr4
    k_steps
    · exact ⟨_, _, rfl, F7, N7, hJ3.yes t3 (bit_yes (by assumption))⟩
    · exact ⟨_, _, rfl, F7, N7, hJ3.no (bit_no (by assumption))⟩
  case doneP =>
    intro ys hys P hh tkP F8 N8 off8
    have hP : IntsAre ys ((placesOf i).map fun k => ((k : Nat) : Int)) := hys
    refine stageC2 KX GL KT l1 l2 l3 l4 hi F8 N8 off8 off2 d1 d2 d3 d4 (by assumption) d6 d7 hsv htv hP hok hlt hrows h4 hds hgood ?_
    intro h' tk' m' nw' F' N' o' J'
    exact ⟨rfl, h', tk', m', nw', rfl, F', N', o', J'⟩
end Mine
end
section
theorem Mine.fresh_WLawD : True := by w_top off; trivial
set_option maxRecDepth 100000
set_option maxHeartbeats 8000000
set_option linter.unusedVariables false
namespace Mine
open PySem PySem.W PySem.Calls PyProof.Rows
example : (fun P => KK P) = KK ∧ PySem.Challenge.rw_st0021_01 = PySem.Challenge.rw_st0021_01 := by k_fill; exact ⟨rfl, rfl⟩
local macro_rules | `(tactic| k_ne) => `(tactic| (refine neN ?_; (try dsimp only); (first | assumption | exact Ne.symm (by assumption) | (simp only [*, ne_eq, not_false_eq_true]; done) | (refine Ne.symm ?_; simp only [*, ne_eq, not_false_eq_true]; done) | omega)))
local macro_rules | `(tactic| k_all) => `(tactic| exact restNe (by assumption) (by (try dsimp only); omega) (by (try dsimp only); omega))
local macro_rules | `(tactic| walk_at "call ref") => `(tactic| (refine stop_here ?_))
local macro_rules | `(tactic| walk_at "binaryOp Add ref ref") => `(tactic| (refine stop_here ?_))
local macro_rules | `(tactic| walk_at "call builtin:str.join") => `(tactic| (refine stop_here ?_))
local macro_rules | `(tactic| k_all) => `(tactic| exact restLt (by assumption) (by (try dsimp only); omega))
set_option pp.deepTerms.threshold 8
theorem q_true {Q : Flow → Shared → Prop} {s : Shared} {b : Bool} (h : b = true) (hq : Q (.ret (.bool true)) s) : Q (.ret (.bool b)) s := h ▸ hq
theorem stageD {w : World} {mean : ExcName → Option Value} {mg mb : Str → Option Value} {h₀ : Heap} {L fa : Addr} {ccd : Value} {s : Shared} {m₀ : Str → Option Value} {Q : Flow → Shared → Prop} {E : Value → Shared → Prop}
    (KX : (KK w.params).In h₀) (GL : Glob 0 mg mb (List.map W.itemOf (recsOf qv)) (scalarsOf [] ++ constsW qv) [] (namesW qv looseN) h₀) (KT : Top qv (looseW qv looseN) mean mg mb h₀)
    {S T : Addr} {a b c d r0 r1 r2 r3 r4 r5 r6 : Int} {t0 t1 t2 t3 : Tok} {tv : List Value} {u v1 v2 v3 v5 v6 v7 : Option Value} {k1 k2 : Nat} {o1 o2 o3 o4 o5 o6 o7 : Obj}
    (l1 : @Ne Nat S T)
    (F : Fr h₀ L s.heap (fun y => if y = Str.ofString "sizes" then some (.ref S) else if y = Str.ofString "places" then u else m₀ y))
    (N : News h₀ L s.heap ((T, ({ cls := .type "list", data := .seq tv.toArray k2 } : Obj)) :: (S, ({ cls := .type "list", data := .seq #[.int a t0, .int b t1, .int c t2, .int d t3] k1 } : Obj)) :: cellsL L o1 o2 o3 o4 o5 o6 o7 []))
    (d1 : o1.data = .cell v1) (d2 : o2.data = .cell v2) (d3 : o3.data = .cell v3) (d4 : o4.data = .cell (some (.ref T))) (d5 : o5.data = .cell v5) (d6 : o6.data = .cell v6) (d7 : o7.data = .cell v7)
    (htv : IntsAre tv [r0, r1, r2, r3, r4, r5, r6]) (ba : 0 ≤ a ∧ a ≤ 80) (bb : 0 ≤ b ∧ b ≤ 80) (bc : 0 ≤ c ∧ c ≤ 80) (bd : 0 ≤ d ∧ d ≤ 80)
    (he : [r0, r1, r2, r3, r4, r5, r6] = [0, 0, 0, 0, 24 * (a * b * c * d), 60 * (a * b * c * d) * (a + b + c + d), (a * b * c * d) * (90 * (a + b + c + d) * (a + b + c + d) + 30 * (a * a + b * b + c * c + d * d))])
    (hQ : ∀ h' tk' m', Fr h₀ L h' m' → Q (.ret (.bool true)) { s with heap := h', toks := tk' }) :
    wpAny (model pw w) (callerA.deeper (envOfC dLaw.name dLaw.scope L fa ccd)) (execs (dLaw.body.drop 8) (envOfC dLaw.name dLaw.scope L fa ccd)) Q E s := by
  dsimp only [cellsL] at N
  k_steps
  refine q_true ?_ (hQ _ _ _ (by assumption))
  rw [decide_eq_true_iff]
  rw [he]
  simp only [List.cons.injEq, and_true, true_and]
  refine ⟨?_, ?_, ?_⟩ <;> grind
end Mine
end
section
set_option maxRecDepth 100000
set_option maxHeartbeats 8000000
set_option linter.unusedVariables false
namespace Mine
open PySem PySem.W PySem.Calls PyProof.Rows
theorem sizes16 (rows : List (List (List Nat × List Nat))) : sizesAt rows 16 = [((dlen rows 0 : Nat) : Int), ((dlen rows 1 : Nat) : Int), ((dlen rows 2 : Nat) : Int), ((dlen rows 3 : Nat) : Int)] := by
  have e : (List.range 16).filter (fun c => (placesOf c).length == 1) = [1, 2, 4, 8] := by decide
  unfold sizesAt
  rw [e]
  have e1 : placesOf 1 = [0] := by decide
  have e2 : placesOf 2 = [1] := by decide
  have e4 : placesOf 4 = [2] := by decide
  have e8 : placesOf 8 = [3] := by decide
  simp [mlen, e1, e2, e4, e8]
noncomputable def terms (a b c d : Int) : List (Int × Int) := [(1, 0), (-1, a), (-1, b), (1, a + b), (-1, c), (1, a + c), (1, b + c), (-1, a + b + c), (-1, d), (1, a + d), (1, b + d), (-1, a + b + d), (1, c + d), (-1, a + c + d), (-1, b + c + d), (1, a + b + c + d)]
theorem terms_are (rows : List (List (List Nat × List Nat))) : (List.range 16).map (fun c => (sideOf c, ((mlen rows c : Nat) : Int))) = terms (dlen rows 0 : Nat) (dlen rows 1 : Nat) (dlen rows 2 : Nat) (dlen rows 3 : Nat) := by
  have e : (List.range 16).map (fun c => (sideOf c, placesOf c)) = [(1, []), (-1, [0]), (-1, [1]), (1, [0, 1]), (-1, [2]), (1, [0, 2]), (1, [1, 2]), (-1, [0, 1, 2]), (-1, [3]), (1, [0, 3]), (1, [1, 3]), (-1, [0, 1, 3]), (1, [2, 3]), (-1, [0, 2, 3]), (-1, [1, 2, 3]), (1, [0, 1, 2, 3])] := by decide
  have h : (List.range 16).map (fun c => (sideOf c, ((mlen rows c : Nat) : Int))) = ((List.range 16).map (fun c => (sideOf c, placesOf c))).map fun p => (p.1, (((p.2.map (dlen rows)).sum : Nat) : Int)) := by rw [List.map_map]; rfl
  rw [h, e]
  simp only [List.map_cons, List.map_nil, List.sum_cons, List.sum_nil, terms]
  simp only [Nat.add_zero, Int.natCast_add, Int.natCast_zero, ← Int.add_assoc]
theorem rests16 (rows : List (List (List Nat × List Nat))) (k : Nat) : ((List.range 16).map fun c => sideOf c * ((mlen rows c : Nat) : Int) ^ k).sum = ((terms (dlen rows 0 : Nat) (dlen rows 1 : Nat) (dlen rows 2 : Nat) (dlen rows 3 : Nat)).map fun p => p.1 * p.2 ^ k).sum := by
  rw [← terms_are, List.map_map]; rfl
theorem prouhet0 (a b c d : Int) : ((terms a b c d).map fun p => p.1 * p.2 ^ 0).sum = 0 := by simp [terms]
theorem prouhet1 (a b c d : Int) : ((terms a b c d).map fun p => p.1 * p.2 ^ 1).sum = 0 := by simp only [terms, List.map_cons, List.map_nil, List.sum_cons, List.sum_nil]; grind
theorem prouhet2 (a b c d : Int) : ((terms a b c d).map fun p => p.1 * p.2 ^ 2).sum = 0 := by simp only [terms, List.map_cons, List.map_nil, List.sum_cons, List.sum_nil]; grind
theorem prouhet3 (a b c d : Int) : ((terms a b c d).map fun p => p.1 * p.2 ^ 3).sum = 0 := by simp only [terms, List.map_cons, List.map_nil, List.sum_cons, List.sum_nil]; grind
theorem prouhet4 (a b c d : Int) : ((terms a b c d).map fun p => p.1 * p.2 ^ 4).sum = 24 * (a * b * c * d) := by simp only [terms, List.map_cons, List.map_nil, List.sum_cons, List.sum_nil]; grind
theorem prouhet5 (a b c d : Int) : ((terms a b c d).map fun p => p.1 * p.2 ^ 5).sum = 60 * (a * b * c * d) * (a + b + c + d) := by simp only [terms, List.map_cons, List.map_nil, List.sum_cons, List.sum_nil]; grind
theorem prouhet6 (a b c d : Int) : ((terms a b c d).map fun p => p.1 * p.2 ^ 6).sum = (a * b * c * d) * (90 * (a + b + c + d) * (a + b + c + d) + 30 * (a * a + b * b + c * c + d * d)) := by simp only [terms, List.map_cons, List.map_nil, List.sum_cons, List.sum_nil]; grind
theorem rests_end (rows : List (List (List Nat × List Nat))) (a b c d : Int) (ha : a = (dlen rows 0 : Nat)) (hb : b = (dlen rows 1 : Nat)) (hc : c = (dlen rows 2 : Nat)) (hd : d = (dlen rows 3 : Nat)) :
    restsAt rows 16 = [0, 0, 0, 0, 24 * (a * b * c * d), 60 * (a * b * c * d) * (a + b + c + d), (a * b * c * d) * (90 * (a + b + c + d) * (a + b + c + d) + 30 * (a * a + b * b + c * c + d * d))] := by
  have h : restsAt rows 16 = [0, 1, 2, 3, 4, 5, 6].map fun k => ((List.range 16).map fun c => sideOf c * ((mlen rows c : Nat) : Int) ^ k).sum := rfl
  rw [h, ha, hb, hc, hd]
  simp only [List.map_cons, List.map_nil, rests16, prouhet0, prouhet1, prouhet2, prouhet3, prouhet4, prouhet5, prouhet6]
theorem rests0 (rows : List (List (List Nat × List Nat))) : restsAt rows 0 = [0, 0, 0, 0, 0, 0, 0] := rfl
theorem dlen_le {rows : List (List (List Nat × List Nat))} (h : ∀ row ∈ rows, RowOk row) (h4 : rows.length = 4) (k : Nat) (hk : k < 4) : dlen rows k ≤ 80 := by
  unfold dlen
  rw [List.getD_eq_getElem?_getD, List.getElem?_eq_getElem (by omega)]
  exact due_len (h _ (List.getElem_mem _))
theorem ints4 {sv : List Value} {a b c d : Int} (h : IntsAre sv [a, b, c, d]) : ∃ t0 t1 t2 t3, sv = [.int a t0, .int b t1, .int c t2, .int d t3] := by
  obtain ⟨t0, s0, e0, h0⟩ := h.cons_inv
  obtain ⟨t1, s1, e1, h1⟩ := h0.cons_inv
  obtain ⟨t2, s2, e2, h2⟩ := h1.cons_inv
  obtain ⟨t3, s3, e3, h3⟩ := h2.cons_inv
  have e4 := h3.nil_inv
  subst e0 e1 e2 e3 e4
  exact ⟨t0, t1, t2, t3, rfl⟩
theorem m_zero (m : Str → Option Value) (a : Value) : (fun y => if y = Str.ofString "sizes" then some a else m y) = fun y => if y = Str.ofString "sizes" then some a else if y = Str.ofString "places" then m (Str.ofString "places") else m y := by
  funext y
  by_cases h1 : y = Str.ofString "sizes"
  · rw [if_pos h1, if_pos h1]
  · rw [if_neg h1, if_neg h1]
    by_cases h2 : y = Str.ofString "places"
    · rw [if_pos h2, h2]
    · rw [if_neg h2]
end Mine
end
section
theorem Mine.fresh_WLawB : True := by w_top off; trivial
set_option maxRecDepth 100000
set_option maxHeartbeats 8000000
set_option linter.unusedVariables false
namespace Mine
open PySem PySem.W PySem.Calls PyProof.Rows
example : (fun P => KK P) = KK ∧ PySem.Challenge.rw_st0021_01 = PySem.Challenge.rw_st0021_01 := by k_fill; exact ⟨rfl, rfl⟩
local macro_rules | `(tactic| k_all) => `(tactic| exact restNe (by assumption) (by (try dsimp only); omega) (by (try dsimp only); omega))
local macro_rules | `(tactic| walk_at "call ref") => `(tactic| (refine stop_here ?_))
local macro_rules | `(tactic| walk_at "eval ListComp") => `(tactic| (refine stop_ct ?_))
local macro_rules | `(tactic| walk_at "binaryOp Add ref ref") => `(tactic| (refine stop_here ?_))
local macro_rules | `(tactic| walk_at "call builtin:str.join") => `(tactic| (refine stop_here ?_))
set_option pp.deepTerms.threshold 8
theorem dropBT {h₀ h : Heap} {L : Addr} {a b c d : Addr × Obj} {l : List (Addr × Obj)} (N : News h₀ L h (a :: b :: c :: d :: l)) : News h₀ L h (a :: c :: l) := subNews N fun p hp => by
  rcases List.mem_cons.mp hp with rfl | hp
  · exact .head _
  rcases List.mem_cons.mp hp with rfl | hp
  · exact .tail _ (.tail _ (.head _))
  exact .tail _ (.tail _ (.tail _ (.tail _ hp)))
theorem dropDR {h₀ h : Heap} {L : Addr} {a b c d : Addr × Obj} {o1 o2 o3 o4 o5 o6 o7 : Obj} {rest : List (Addr × Obj)} (N : News h₀ L h (a :: b :: c :: d :: cellsL L o1 o2 o3 o4 o5 o6 o7 rest)) : News h₀ L h (a :: b :: cellsL L o1 o2 o3 o4 o5 o6 o7 []) := subNews N fun p hp => by
  rcases List.mem_cons.mp hp with rfl | hp
  · exact .head _
  rcases List.mem_cons.mp hp with rfl | hp
  · exact .tail _ (.head _)
  refine .tail _ (.tail _ (.tail _ (.tail _ ?_)))
  have : cellsL L o1 o2 o3 o4 o5 o6 o7 rest = cellsL L o1 o2 o3 o4 o5 o6 o7 [] ++ rest := rfl
  rw [this]
  exact List.mem_append_left _ hp
theorem stageB {w : World} {mean : ExcName → Option Value} {mg mb : Str → Option Value} {h₀ : Heap} {L fa : Addr} {ccd : Value} {s : Shared} {m : Str → Option Value} {Q : Flow → Shared → Prop} {E : Value → Shared → Prop}
    (KX : (KK w.params).In h₀) (GL : Glob 0 mg mb (List.map W.itemOf (recsOf qv)) (scalarsOf [] ++ constsW qv) [] (namesW qv looseN) h₀) (KT : Top qv (looseW qv looseN) mean mg mb h₀) (F : Fr h₀ L s.heap m)
    {o1 o2 o3 o4 o5 o6 o7 : Obj} {v1 v2 v3 v4 v5 v6 v7 : Option Value} (d1 : o1.data = .cell v1) (d2 : o2.data = .cell v2) (d3 : o3.data = .cell v3) (d4 : o4.data = .cell v4) (d5 : o5.data = .cell v5) (d6 : o6.data = .cell v6) (d7 : o7.data = .cell v7)
    {R : Addr} {as : List Addr} {rows : List (List (List Nat × List Nat))} {rest : List (Addr × Obj)} (l1 : @LT.lt Nat _ (L + 7) R)
    (N : News h₀ L s.heap ((R, LCg.lst (as.map Value.ref)) :: cellsL L o1 o2 o3 o4 o5 o6 o7 rest)) (hok : RestOk L rest) (hrows : RowsIn rest rows as) (h4 : rows.length = 4)
    (hgood : ∀ row ∈ rows, RowOk row)
    (hE : PassesOwn (model pw w) (callerA.deeper (envOfC dLaw.name dLaw.scope L fa ccd)) (envOfC dLaw.name dLaw.scope L fa ccd) E)
    (hQ : ∀ h' tk' m', Fr h₀ L h' m' → Q (.ret (.bool true)) { s with heap := h', toks := tk' }) :
    wpAny (model pw w) (callerA.deeper (envOfC dLaw.name dLaw.scope L fa ccd)) (storeName (envOfC dLaw.name dLaw.scope L fa ccd) (Str.ofString "rows") (.ref R)) (fun _ => wpAny (model pw w) (callerA.deeper (envOfC dLaw.name dLaw.scope L fa ccd)) (execs (dLaw.body.drop 3) (envOfC dLaw.name dLaw.scope L fa ccd)) Q E) E s := by
  k_steps
  unfold Stop
  rename Fr _ _ _ _ => F1
  rename News _ _ _ _ => N1
  refine comp_calls F1 (by with_unfolding_all rfl) (by decide) (by rfl) (by decide) (by rfl) (by rfl) (fun _ => rfl) ?_
  k_steps
  refine ⟨_, _, _, _, DuesJ _ rows, rfl, F1, N1, ?size, DuesJ.zero _ _, fun i ys nw h => (by rw [h.1]; exact .head _), ?turn, ?fin⟩
  case size => rw [List.size_toArray, List.length_map, hrows.1, h4]; exact Nat.le_of_ble_eq_true rfl
  case turn =>
    intro i v h tk I oI C oC D m₂ ys nw E' hv hJ hcI hoC hm2 F2 N2 off2
    obtain ⟨a, row, ha, hr, rfl⟩ := row_at hrows hv
    obtain ⟨b, hb1, hb2⟩ := hrows.2 i row hr
    obtain rfl : b = a := by rw [ha] at hb1; exact (Option.some.inj hb1).symm
    have hg := hgood row (List.mem_of_getElem? hr)
    k_steps
    unfold Stop
    refine spec_use (spec_due _ _ _ _ b row _ (hb2.mono ?mono) hg.2.1 hg.2.2) (below_caller _) F2 KX N2 KT rfl ?hd ?hu ?_
    case mono =>
      intro p hp
      rw [hJ.1]
      exact .tail _ (.tail _ (.tail _ (.tail _ (.tail _ (.tail _ (.tail _ (.tail _ (.tail _ (.tail _ (.tail _ hp))))))))))
    case hd => decide
    case hu => decide
    intro r' tl' h' tk' F' N' R'
    obtain ⟨⟨t, hr1⟩, hr2⟩ := R'
    subst hr1 hr2
    exact ⟨_, _, _, rfl, F', N', off2, hJ.step hr t⟩
  case fin =>
    intro D h tk ys nw hl hJ F2 N2 off2 lD
    obtain ⟨rfl, hst⟩ := hJ
    rw [List.take_of_length_le (by rw [List.size_toArray, List.length_map, hrows.1]; exact Nat.le_refl _)] at hst
    simp only [LCg.Off1] at off2
    clear F1 N1
    k_steps
    unfold Stop
    rename Fr _ _ _ _ => F3
    rename News _ _ _ _ => N3
    refine add_refs F3 N3 (.tail _ (.head _)) (.tail _ (.head _)) ?_ ?_
    · rw [List.length_map, hrows.1, h4]; exact Nat.le_of_ble_eq_true rfl
    intro R2 h2 F4 N4 lr
    k_lt lr
    k_steps
    unfold Stop
    refine spec_use (spec_mail _ _ _ _ R2 (rows ++ rows) _ ((hrows.append hrows).at ?mono List.map_append.symm (.head _)) ?l8 (fun row hr => (rows_rows hgood row hr).2.1) (rows_flat1 (rows_rows hgood))) (below_caller _) F4 KX N4 KT rfl ?hd ?hu ?_
    case mono => intro p hp; exact .tail _ (.tail _ (.tail _ (.tail _ (.tail _ (.tail _ (.tail _ (.tail _ (.tail _ (.tail _ hp)))))))))
    case l8 => rw [List.length_append, h4]; exact Nat.le_refl _
    case hd => decide
    case hu => decide
    intro r' tl' h' tk' F5 N5 R'
    obtain ⟨⟨t, hr1⟩, D9, o9, hr2⟩ := R'
    subst hr1 hr2
    replace N5 := drop2 N5
    clear F4 N4 F3 N3
    k_steps
    unfold Stop
    have hl4 : ys.length = 4 := by rw [hl, List.size_toArray, List.length_map, hrows.1, h4]
    refine add_refs F5 N5 (.head _) (.head _) (by rw [hl4]; exact Nat.le_of_ble_eq_true rfl) ?_
    intro J2 h6 F6 N6 lj
    k_lt lj
    k_steps
    unfold Stop
    refine join_list (ys := (rows ++ rows).map fun r => strOf (dueOf r)) (News.isList N6 (.head _)) ?_ ?_ ?_
    · rw [List.map_append]; exact hst.append' hst
    · have := dues_sum (rows ++ rows) (rows_rows hgood)
      rw [show (Str.ofString "").length = 0 from by decide +kernel]
      rw [List.length_append, h4] at this
      omega
    intro t7 k7
    rw [mail_str (rows_rows hgood)]
    k_steps
    · exact absurd (by assumption : (_ != _) = true) (by simp)
    have lR : @LT.lt Nat _ R D := lD _ (.head _)
    rename_i S hS lS h3 tk0 lz h2 lzz T hT i1 n1 s1 e1 e2 e3 lT hh o4' F8 N8 d4'
    have lSr : AllLt S rest := by simp only [lS]
    have hlt : ∀ p ∈ rest, p.1 ≠ S := fun p hp => Nat.ne_of_lt (kst_ltOf lSr p hp)
    have lDS : @LT.lt Nat _ D S := by omega
    have hneT : @Ne Nat S T ∧ @Ne Nat D T ∧ @Ne Nat R T ∧ (@LE.le Nat _ T L ∨ @LT.lt Nat _ (L + 7) T) := ⟨by omega, by omega, by omega, by omega⟩
    rw [m_zero m] at F8
    have N9 := dropBT N8
    clear N8
    have i2 : IntsAre (List.replicate (Int.toNat 7) [Value.int 0 tk0]).flatten (restsAt rows 0) := i1
    refine stageC (m₀ := m) (rest := rest) (rows := rows) (as := as) (ds := ys) (R := R) (D := D) (S := S) KX GL KT F8 l1 lR lDS N9 ⟨m (Str.ofString "places"), T, [], (List.replicate (Int.toNat 7) [Value.int 0 tk0]).flatten, 0, 0, _, _, _, _, _, _, _, _, _, _, _, rfl, hneT, d1, by assumption, by assumption, d4', d5, d6, d7, .nil, i2, rfl⟩ hok hlt hrows h4 hst hgood hE ?_
    intro h9 tk9 m9 nw9 F9 N10 hJ9
    obtain ⟨u, T2, sv, tv, k1, k2, p1, p2, p3, p4, p5, p6, p7, w1, w5, w6, w7, rfl, l4, c1, c2, c3, c4, c5, c6, c7, hsv, htv, rfl⟩ := hJ9
    rw [sizes16 rows] at hsv
    obtain ⟨t0, t1, t2, t3, rfl⟩ := ints4 hsv
    rw [rests_end rows _ _ _ _ rfl rfl rfl rfl] at htv
    have b0 := dlen_le hgood h4 0 (by omega)
    have b1 := dlen_le hgood h4 1 (by omega)
    have b2 := dlen_le hgood h4 2 (by omega)
    have b3 := dlen_le hgood h4 3 (by omega)
    refine stageD KX GL KT (S := S) (T := T2) l4.1 F9 (dropDR N10) c1 c2 c3 c4 c5 c6 c7 htv ⟨by omega, by omega⟩ ⟨by omega, by omega⟩ ⟨by omega, by omega⟩ ⟨by omega, by omega⟩ rfl ?_
    exact fun h' tk' m' F' => hQ h' tk' m' F'
end Mine
end
section
theorem Mine.fresh_WLaw : True := by w_top off; trivial
set_option maxRecDepth 100000
set_option maxHeartbeats 8000000
set_option linter.unusedVariables false
namespace Mine
open PySem PySem.W PySem.Calls PyProof.Rows
example : (fun P => KK P) = KK ∧ PySem.Challenge.rw_st0021_01 = PySem.Challenge.rw_st0021_01 := by k_fill; exact ⟨rfl, rfl⟩
theorem stop_line (n : Nat) {prog : Program} {w : World} {A : Around} {ts : List Expr} {v : Expr} {c e f : Nat} {env : Env} {Q : Flow → Shared → Prop} {E : Value → Shared → Prop} {s : Shared}
    (h : Stop (wpAny (model prog w) A (exec (.Assign ts v { line := n, col := c, endLine := e, endCol := f }) env) Q E s)) : wpAny (model prog w) A (exec (.Assign ts v { line := n, col := c, endLine := e, endCol := f }) env) Q E s := h
local macro_rules | `(tactic| walk_at "exec Assign cons ListComp") => `(tactic| (refine stop_line 101 ?_))
local macro_rules | `(tactic| walk_at "call builtin:len") => `(tactic| (refine stop_here ?_))
local macro_rules | `(tactic| walk_at "binaryOp Add ref ref") => `(tactic| (refine stop_here ?_))
theorem stop_sl {prog : Program} {w : World} {A : Around} {xs : List Expr} {p : Pos} {sl : Expr} {a b : Value} {Q : Value → Shared → Prop} {E : Value → Shared → Prop} {s : Shared}
    (h : Stop (wpAny (model prog w) A (subscriptTail (.List xs p) sl a b) Q E s)) : wpAny (model prog w) A (subscriptTail (.List xs p) sl a b) Q E s := h
local macro_rules | `(tactic| walk_at "last subscriptTail") => `(tactic| (refine stop_here ?_))
theorem ints12 (a b c d e f g h i j k l : Tok) : IntsAre [.int 0 a, .int 2 b, .int 6 c, .int 10 d, .int 0 e, .int 5 f, .int 3 g, .int 18 h, .int 4 i, .int 13 j, .int 38 k, .int 7 l] [0, 2, 6, 10, 0, 5, 3, 18, 4, 13, 38, 7] :=
  .cons _ _ (.cons _ _ (.cons _ _ (.cons _ _ (.cons _ _ (.cons _ _ (.cons _ _ (.cons _ _ (.cons _ _ (.cons _ _ (.cons _ _ (.cons _ _ .nil)))))))))))
local macro_rules | `(tactic| walk_at "eval ListComp") => `(tactic| (refine stop_ct ?_))
theorem drop4 {h₀ h : Heap} {L : Addr} {a b c d e : Addr × Obj} {l : List (Addr × Obj)} (N : News h₀ L h (a :: b :: c :: d :: e :: l)) : News h₀ L h (a :: l) :=
  subNews N fun p hp => by rcases List.mem_cons.mp hp with rfl | hp; exact .head _; exact .tail _ (.tail _ (.tail _ (.tail _ (.tail _ hp))))
theorem joinNews {h₀ h : Heap} {L : Addr} {a b c : Addr × Obj} {l nw : List (Addr × Obj)} (N : News h₀ L h (a :: b :: c :: nw)) (s : ∀ p ∈ l, p ∈ nw) : News h₀ L h (a :: b :: c :: (l ++ nw)) :=
  subNews N fun p hp => by
    rcases List.mem_cons.mp hp with rfl | hp
    · exact .head _
    rcases List.mem_cons.mp hp with rfl | hp
    · exact .tail _ (.head _)
    rcases List.mem_cons.mp hp with rfl | hp
    · exact .tail _ (.tail _ (.head _))
    rcases List.mem_append.mp hp with hp | hp
    · exact .tail _ (.tail _ (.tail _ (s _ hp)))
    · exact .tail _ (.tail _ (.tail _ hp))
theorem nums_len (a : List Int) (h : a.length ≤ 12) : (a ++ List.drop ((a.length : Int)).toNat [0, 2, 6, 10, 0, 5, 3, 18, 4, 13, 38, 7]).length = 12 := by
  rw [List.length_append, List.length_drop]
  simp only [Int.toNat_natCast, List.length_cons, List.length_nil]
  omega
theorem nums_pos (f : List Int) (k : Int) (hk : 0 < k) (j : Nat) : ∀ n ∈ (f.map fun x => x.fmod k) ++ List.drop j [0, 2, 6, 10, 0, 5, 3, 18, 4, 13, 38, 7], 0 ≤ n := by
  intro n hn
  rcases List.mem_append.mp hn with h | h
  · obtain ⟨x, _, rfl⟩ := List.mem_map.mp h
    exact Int.fmod_nonneg_of_pos x hk
  · have := List.mem_of_mem_drop h
    simp only [List.mem_cons, List.not_mem_nil, or_false] at this
    omega
local macro_rules | `(tactic| walk_at "call ref") => `(tactic| (refine stop_here ?_))
set_option pp.deepTerms.threshold 8
local macro_rules | `(tactic| k_qdec) => `(tactic| decide +kernel)
theorem walk0 : WalkO qv looseN (XL qv []) HK.says rr.toRowW dLaw [] (fun f vs => PySem.call f vs) := by
  k_go0
  rename Frag.In _ _ => KX
  rename Top _ _ _ _ _ _ => KT
  rename Glob _ _ _ _ _ _ _ _ => GL
  k_steps
  rename Fr _ _ _ _ => F1
  rename News _ _ _ _ => N1
  rename (_ ∧ _) => l1
  unfold Stop
  rename IntsAre _ (List.map _ (List.take 12 _)) => hI8
  refine len_ints_fit (News.isList N1 (.tail _ (.head _))) hI8 ?_ ?_
  · rw [List.length_map]
    exact Nat.lt_of_le_of_lt (List.length_take_le 12 _) (by decide)
  k_steps
  unfold Stop
  refine kba_turn (value' := PySem.Expr.Name (PySem.Str.ofString "_") ⟨0, 0, 0, 0⟩) (fun _ => rfl) ?_
  refine' kmk_slice_ints F1 N1 (News.isList N1 (.head _)) ?p5 ?q5 (ints12 _ _ _ _ _ _ _ _ _ _ _ _) ?m5 ?c5 ?_ ?s5 ?t5 ?z5
  (case p5 => exact IsPart.int _ _)
  (case q5 => exact IsPart.none)
  (case m5 => exact kmk_from (ints12 _ _ _ _ _ _ _ _ _ _ _ _) (Int.natCast_nonneg _))
  (case c5 => exact List.length_drop)
  (case s5 => with_unfolding_all rfl)
  (case t5 => kmk_pure)
  (case z5 => exact Nat.le_of_ble_eq_true rfl)
  intro D9 ws9 h9 F2 N2 l9 hI9 hC9 hL9
  clear hC9 hL9 F1 N1
  k_steps
  unfold Stop
  refine kmk_add_ints F2 N2 (News.isList N2 (.tail _ (.tail _ (.head _)))) (News.isList N2 (.head _)) hI8 hI9 ?_ ?_
  rotate_left
  · refine Nat.le_trans ?_ (show 24 ≤ sizeLine by decide)
    rw [List.length_map, List.length_drop]
    exact Nat.add_le_add (List.length_take_le 12 _) (Nat.sub_le _ _)
  intro Dn us hn F3 N3 ln hn1
  have hf : ∃ NS, IntsAre us NS ∧ NS.length = 12 ∧ ∀ n ∈ NS, 0 ≤ n := ⟨_, hn1, nums_len _ (by rw [List.length_map]; exact List.length_take_le 12 _), nums_pos _ _ (by decide) _⟩
  obtain ⟨NS, hNS, hN12, hN0⟩ := hf
  replace N3 := drop4 N3
  k_lt ln
  clear hn1 hI8 hI9 N2 F2 l9
  k_steps
  unfold Stop
  clear l1
  rename Fr _ _ _ _ => F4
  rename News _ _ _ _ => N4
  refine wpAny_Assign_Name ?_
  refine comp_calls F4 (by with_unfolding_all rfl) (by decide) (by rfl) (by decide) (by rfl) (by rfl) (fun _ => rfl) ?_
  k_steps
  rename Fr _ _ _ _ => F5
  rename News _ _ _ _ => N5
  refine ⟨_, _, _, _, RowsJ _ (rowOf NS), rfl, F5, N5, Nat.le_of_ble_eq_true rfl, RowsJ.zero _ _, fun i ys nw h => h.2.1 _ (.head _), ?turn, ?fin⟩
  case turn =>
    intro i v h tk I oI C oC D m₂ ys nw E' hv hJ hcI hoC hm2 F6 N6 off6
    have hv' : ∃ n t, v = .int n t ∧ n = 3 * (i : Int) ∧ i < 4 := by
      rcases i with _ | _ | _ | _ | i
      · cases hv; exact ⟨_, _, rfl, rfl, by omega⟩
      · cases hv; exact ⟨_, _, rfl, rfl, by omega⟩
      · cases hv; exact ⟨_, _, rfl, rfl, by omega⟩
      · cases hv; exact ⟨_, _, rfl, rfl, by omega⟩
      · cases hv
    obtain ⟨n, tn, rfl, hn3, hi4⟩ := hv'
    clear hv
    have hsub := hJ.2.1
    have N7 := joinNews N6 hsub
    clear F5 N5 hsub N6
    k_steps
    unfold Stop
    refine comp_calls F6 (by with_unfolding_all rfl) (by decide) (by rfl) (by decide) (by rfl) (by rfl) (fun _ => rfl) ?_
    k_steps
    rename Fr _ _ _ _ => F8
    rename News _ _ _ _ => N8
    rename IntsAre _ (List.take _ _) => hms
    rename (_ ∧ _) => l8
    rw [slice3 NS n i hN12 hn3 hi4] at hms
    have hml : ((NS.drop (3 * i)).take 3).length = 3 := by rw [List.length_take, List.length_drop]; omega
    have hm0 : ∀ x ∈ (NS.drop (3 * i)).take 3, 0 ≤ x := fun x hx => hN0 x (List.mem_of_mem_drop (List.mem_of_mem_take hx))
    (try clear F6); (try clear N7)
    refine ⟨_, _, _, _, SignsJ _ ((NS.drop (3 * i)).take 3), rfl, F8, N8, ?size2, SignsJ.zero _ _, fun i ys nw h => h.2.1 _ (.head _), ?turn2, ?fin2⟩
    case size2 => rw [List.size_toArray, hms.length, hml]; exact Nat.le_of_ble_eq_true rfl
    case turn2 =>
      intro i2 v2 h2 tk2 I2 oI2 C2 oC2 D2 m3 ys2 nw2 E2 hv2 hJ2 hcI2 hoC2 hm22 F9 N9 off9
      obtain ⟨n2, t2, rfl, hn2⟩ := hms.at i2 v2 (by simpa using hv2)
      have hn20 := hm0 n2 (List.mem_of_getElem? hn2)
      k_steps
      unfold Stop
      refine spec_use (spec_sign _ _ _ _ n2 t2 _ hn20) (below_caller _) F9 KX N9 KT rfl ?hd ?hu ?_
      case hd => decide
      case hu => decide
      intro r' tl' h' tk' F' N' R'
      obtain ⟨a, t1, t2, hr1, hr2⟩ := R'
      subst hr1 hr2
      exact ⟨_, _, _, rfl, F', subNews N' (fun p hp => by
        rcases List.mem_cons.mp hp with rfl | hp
        · exact .tail _ (.head _)
        rcases List.mem_cons.mp hp with rfl | hp
        · exact .tail _ (.tail _ (.head _))
        rcases List.mem_cons.mp hp with rfl | hp
        · exact .tail _ (.tail _ (.tail _ (.head _)))
        rcases List.mem_cons.mp hp with rfl | hp
        · exact .head _
        exact .tail _ (.tail _ (.tail _ (.tail _ hp)))), offPair N' hcI2 hoC2 off9, hJ2.step hn2 a t1 t2⟩
    case fin2 =>
      intro D3 h3 tk3 ys3 nw3 hl3 hJ3 F10 N10 off10 _
      have hsz3 := hms.length
      simp only [List.size_toArray, hsz3] at hJ3
      clear F8 N8
      k_steps
      unfold Stop
      rename Fr _ _ _ _ => F11
      rename News _ _ _ _ => N11
      have hs3 : ys3.length = 3 := by rw [hl3, List.size_toArray]; omega
      refine add_refs F11 N11 (.tail _ (.tail _ (.head _))) (.head _) (by rw [hs3]; exact Nat.le_of_ble_eq_true rfl) ?_
      intro b h12 F12 N12 lb
      have N13 := nlNews N12
      have mb := hJ3.2.1
      have mI := mb _ (.tail _ (.head _))
      have mC := mb _ (.tail _ (.tail _ (.head _)))
      have mD := mb _ (.tail _ (.tail _ (.tail _ (.head _))))
      have mN : ∀ p ∈ nw, p ∈ nw3 := fun p hp => mb p (.tail _ (.tail _ (.tail _ (.tail _ (List.mem_append_right _ hp)))))
      have ab := fun (p : Addr × Obj) (hp : p ∈ nw3) => lb p (.tail _ (.tail _ (.tail _ hp)))
      exact row_end F12 N13 mI mC mD mN ab hcI hoC off6 hJ hJ3
  case fin =>
    intro D h tk ys nw hl hJ F6 N6 off6 lD
    have hsub := hJ.2.1
    have mC := fun (p : Addr × Obj) (hp : p ∈ cellsL _ _ _ _ _ _ _ _ []) => hsub p (.tail _ (.tail _ hp))
    have hC := cells_of mC (by assumption) (by assumption) (by assumption) (by assumption) (by assumption) (by assumption) (by assumption)
    obtain ⟨as, rfl, hrows⟩ := rows_final (subNews N6 fun p hp => .tail _ hp) hC hJ
    have l1 := lD _ (.tail _ (.tail _ (.head _)))
    have N7 := finalNews N6 mC
    refine stageB KX GL KT F6 (by assumption) (by assumption) (by assumption) (by assumption) (by assumption) (by assumption) (by assumption) l1 N7 (restOf_ok _ _) hrows (by simp) (rows_good NS hN0) (by passes_own) ?_
    intro h' tk' m' F'
    k_steps
end Mine
end
section
theorem Mine.fresh_HeadZ : True := by w_top off; trivial
set_option maxRecDepth 100000
set_option maxHeartbeats 4000000
set_option linter.unusedVariables false
namespace Mine
open PySem PySem.W PySem.Calls PyProof.Rows
theorem well_said : OpenLaw.wellSaid PySem.Challenge.rw_st0021_01 = true := by
  unfold OpenLaw.wellSaid OpenRow.wellSaid OpenRow.partSaid looksOpen
  repeat' (with_reducible refine look_both ?_ ?_)
  all_goals decide +kernel
theorem hd (call : WalkO qv looseN (XL qv []) HK.says rr.toRowW dLaw [] (fun f vs => PySem.call f vs)) : PySem.Challenge.rw_st0021_01.Holds := by
  w_on
  refine holds_law well_said fun said => ?_
  refine PySem.W.holds_open (q := qv) (loose := looseN) (Xt := XtQ) (XP := XL qv []) (Yf := HK.obs) (Ya := HK.val) (YP := HK.says) (d := dLaw) (kwd := []) (N := 30000) left (Hook.of HK) (Hook.keeps HK) (fun s e => xl_of s (Bool.and_eq_true_iff.mp e).1) XL.keeps
    (by kernel_rfl!) (by kernel_rfl!) (by kernel_rfl!) (fun s e => recFacts_of (Bool.and_eq_true_iff.mp e).2) (by kernel_rfl!) (by assumption) (by kernel_rfl!) ⟨rfl, rfl, rfl, rfl, rfl, by decide +kernel⟩ ?hw call
  case hw => w_witness2
end Mine
end
theorem PySem.Challenge.cw_st0021_01_holds : PySem.Challenge.rw_st0021_01.Holds :=
  Mine.hd Mine.walk0
