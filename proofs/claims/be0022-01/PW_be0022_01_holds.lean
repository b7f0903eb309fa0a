import PyProof.Rows.All
import Wide.All
import OpenK.AllK
import Wide.FinOn
import KE.KNestM
import KE.KData
import KE.KxDecode
import KE.KxPercent
import PySem.Challenge.RW_be0022_01
set_option Elab.async false
set_option maxRecDepth 100000
set_option linter.all false
namespace Mine
section
open PySem PySem.W PyProof.Rows
noncomputable def impEndsT (tb : String → Option Builtin) (p : Program) (w : World) : Nat → SharedT → Thread → Option SharedT
  | 0, _, _ => none
  | n + 1, s, t => match t.atExitBegin with
    | some [] => some s
    | some (_ :: _) => none
    | none => match stepT (denote tb) p w s t with
      | some (s', t') => impEndsT tb p w n s' t'
      | none => none
theorem impEnds_of {tb : String → Option Builtin} {p : Program} {w : World} : ∀ {n : Nat} {s s' : SharedT} {t : Thread}, impEndsT tb p w n s t = some s' → importEnds tb p w n s.abs t = some s'.abs
  | 0, _, _, _, h => nomatch h
  | n + 1, s, s', t, h => by
    unfold impEndsT at h
    unfold importEnds
    cases he : t.atExitBegin with
    | some l =>
      rw [he] at h
      cases l with
      | nil => cases h; rfl
      | cons _ _ => cases h
    | none =>
      rw [he] at h
      cases hs : stepT (denote tb) p w s t with
      | none => rw [hs] at h; cases h
      | some r => obtain ⟨s₂, t₂⟩ := r; rw [hs] at h; rw [stepT_spec hs]; exact impEnds_of h
noncomputable def impEndsQ (tb : String → Option Builtin) (p : Program) (w : World) (n : Nat) : SharedT → Thread → Option SharedT := @Nat.rec (fun _ => SharedT → Thread → Option SharedT) (fun _ _ => none) (fun _ ih s t => match PySem.W.Fast.tw3805553451399329143 t with
    | some [] => some s
    | some (_ :: _) => none
    | none => match PySem.W.Fast.tw10156331382660048174 (PySem.W.Fast.tw11892475500146522536 tb) p w s t with
      | some (s', t') => ih s' t'
      | none => none) n
theorem impEndsQ_eq : @impEndsT = @impEndsQ := by
  unfold impEndsQ
  rw [← PySem.W.Fast.te3805553451399329143, ← PySem.W.Fast.te10156331382660048174, ← PySem.W.Fast.te11892475500146522536]
  funext tb p w n
  induction n with
  | zero => rfl
  | succ n ih => funext s t; unfold impEndsT; rw [ih]
noncomputable abbrev PW : Program := PySem.Challenge.pw_be0022_01
noncomputable abbrev vs (s : String) (t : Nat) : Value := .str (Str.ofString s) t
noncomputable abbrev de (P : Params) (k : String) (t : Nat) (v : Value) : DictEntry := ⟨PyData.keyHash P (Str.ofString k), .str (Str.ofString k) t, v⟩
noncomputable def tp (i : Nat) : Stmt := (PW.main.body[i]?).getD (.Pass default)
noncomputable def inn (i j : Nat) : Stmt := match tp i with | .ClassDef _ _ _ b .. => (b[j]?).getD (.Pass default) | s => s
noncomputable def fn (st : Stmt) (q : String) (g : Addr) (cl : List (Str × Addr)) (d kd doc md : Value) (an : Option Addr) (cd ct : Value) (b : Addr) : FuncData := match st with
  | .FunctionDef n a body _ _ _ sc .. => ⟨n, Str.ofString q, a, .stmts body, sc, g, cl, d, kd, doc, md, an, cd, ct, b⟩
  | _ => default
noncomputable def o0 (P : Params) : Obj := ⟨.type "dict", none, .dict #[de P "builtins" 162 (.ref 4), de P "__main__" 163 (.ref 5), de P "_sre" 244 (.ref 12)] 3, #[]⟩
noncomputable def o1 (P : Params) : Obj := ⟨.none, none, .dict #[de P "\x69mport.loaded._sre" 183 (.bool true), de P "class._frozen_importlib.BuiltinImporter" 185 (.ref 14), de P "watched.\x69mport" 206 (.ref 18), de P "class._frozen_importlib.ModuleSpec" 216 (.ref 22), de P "sys.modules.booked-epoch" 245 (.int 3 0), de P "\x69mport.later-laid._sre" 270 (.bool true), de P "watched.library" 272 (.ref 27), de P "watched.library-objects" 0 (.str ⟨#[12]⟩ 0), de P "watched.library-deep._sre" 273 (.str ⟨#[4, 0, 0, 11, 4, 0, 0, 11, 4, 0, 0, 3, 4, 0, 0, 11, 8, 4, 100, 105, 99, 116, 2]⟩ 0)] 9, #[]⟩
noncomputable def o2 (P : Params) : Obj := ⟨.type "dict", none, .dict #[de P "__name__" 165 (vs "__main__" 164), de P "__doc__" 166 (.none), de P "__package__" 167 (.none), de P "__loader__" 168 (.builtin "__main__.__loader__#opaque"), de P "__spec__" 169 (.none), de P "__annotations__" 170 (.ref 6), de P "__builtins__" 171 (.ref 4), de P "__file__" 173 (vs "/claim/cut.py" 172), de P "__cached__" 174 (.none), de P "_sre" 275 (.ref 12)] 10, #[]⟩
noncomputable def o3 (P : Params) : Obj := ⟨.type "dict", none, .dict #[de P "__name__" 247 (vs "_sre" 246), de P "__doc__" 248 (.none), de P "__package__" 250 (vs "" 249), de P "__loader__" 251 (.ref 14), de P "__spec__" 252 (.ref 26), de P "compile" 253 (.builtin "_sre.compile"), de P "template" 254 (.builtin "_sre.template"), de P "getcodesize" 255 (.builtin "_sre.getcodesize"), de P "ascii_iscased" 256 (.builtin "_sre.ascii_iscased"), de P "unicode_iscased" 257 (.builtin "_sre.unicode_iscased"), de P "ascii_tolower" 258 (.builtin "_sre.ascii_tolower"), de P "unicode_tolower" 259 (.builtin "_sre.unicode_tolower"), de P "MAGIC" 261 (.int 20230612 260), de P "CODESIZE" 263 (.int 4 262), de P "MAXREPEAT" 265 (.int 4294967295 264), de P "MAXGROUPS" 267 (.int 1073741823 266), de P "copyright" 269 (vs " SRE 2.2.2 Copyright (c) 1997-2002 by Secret Labs AB " 268)] 17, #[]⟩
noncomputable def o4 (P : Params) : Obj := ⟨.type "module", (some 11), .plain, #[]⟩
noncomputable def o5 (P : Params) : Obj := ⟨.type "dict", none, .dict #[de P "__module__" 189 (vs "_frozen_importlib" 186), de P "__firstlineno__" 190 (.int 971 187), de P "__doc__" 191 (.builtin "_frozen_importlib.BuiltinImporter.__doc__:str#opaque"), de P "_ORIGIN" 192 (vs "built-in" 188), de P "find_spec" 193 (.builtin "_frozen_importlib.BuiltinImporter.find_spec#opaque"), de P "create_module" 194 (.builtin "_frozen_importlib.BuiltinImporter.create_module#opaque"), de P "exec_module" 195 (.builtin "_frozen_importlib.BuiltinImporter.exec_module#opaque"), de P "get_code" 196 (.builtin "_frozen_importlib.BuiltinImporter.get_code#opaque"), de P "get_source" 197 (.builtin "_frozen_importlib.BuiltinImporter.get_source#opaque"), de P "is_package" 198 (.builtin "_frozen_importlib.BuiltinImporter.is_package#opaque"), de P "load_module" 199 (.builtin "_frozen_importlib.BuiltinImporter.load_module#opaque"), de P "__static_attributes__" 200 (.ref 15), de P "__dict__" 202 (.ref 16), de P "__weakref__" 204 (.ref 17)] 14, #[]⟩
noncomputable def o6 (P : Params) : Obj := ⟨.type "type", none, .cls ⟨"BuiltinImporter", [.type "object"], [.ref 14, .type "object"], 13, "BuiltinImporter", true, [], [], false, none, false⟩, #[]⟩
noncomputable def o7 (P : Params) : Obj := ⟨.type "getset_descriptor", none, .fields #[vs "__dict__" 201, .ref 14, .builtin "function.__dict__", .builtin "function.__dict__#set"], #[]⟩
noncomputable def o8 (P : Params) : Obj := ⟨.type "getset_descriptor", none, .fields #[vs "__weakref__" 203, .ref 14, .builtin "ExceptionGroup.__weakref__", .none], #[]⟩
noncomputable def o9 (P : Params) : Obj := ⟨.none, none, .seq #[.int 13 0, .str ⟨#[6, 189, 10, 95, 95, 109, 111, 100, 117, 108, 101, 95, 95, 6, 186, 17, 95, 102, 114, 111, 122, 101, 110, 95, 105, 109, 112, 111, 114, 116, 108, 105, 98, 6, 190, 15, 95, 95, 102, 105, 114, 115, 116, 108, 105, 110, 101, 110, 111, 95, 95, 4, 187, 0, 971, 6, 191, 7, 95, 95, 100, 111, 99, 95, 95, 9, 52, 95, 102, 114, 111, 122, 101, 110, 95, 105, 109, 112, 111, 114, 116, 108, 105, 98, 46, 66, 117, 105, 108, 116, 105, 110, 73, 109, 112, 111, 114, 116, 101, 114, 46, 95, 95, 100, 111, 99, 95, 95, 58, 115, 116, 114, 35, 111, 112, 97, 113, 117, 101, 6, 192, 7, 95, 79, 82, 73, 71, 73, 78, 6, 188, 8, 98, 117, 105, 108, 116, 45, 105, 110, 6, 193, 9, 102, 105, 110, 100, 95, 115, 112, 101, 99, 9, 50, 95, 102, 114, 111, 122, 101, 110, 95, 105, 109, 112, 111, 114, 116, 108, 105, 98, 46, 66, 117, 105, 108, 116, 105, 110, 73, 109, 112, 111, 114, 116, 101, 114, 46, 102, 105, 110, 100, 95, 115, 112, 101, 99, 35, 111, 112, 97, 113, 117, 101, 6, 194, 13, 99, 114, 101, 97, 116, 101, 95, 109, 111, 100, 117, 108, 101, 9, 54, 95, 102, 114, 111, 122, 101, 110, 95, 105, 109, 112, 111, 114, 116, 108, 105, 98, 46, 66, 117, 105, 108, 116, 105, 110, 73, 109, 112, 111, 114, 116, 101, 114, 46, 99, 114, 101, 97, 116, 101, 95, 109, 111, 100, 117, 108, 101, 35, 111, 112, 97, 113, 117, 101, 6, 195, 11, 101, 120, 101, 99, 95, 109, 111, 100, 117, 108, 101, 9, 52, 95, 102, 114, 111, 122, 101, 110, 95, 105, 109, 112, 111, 114, 116, 108, 105, 98, 46, 66, 117, 105, 108, 116, 105, 110, 73, 109, 112, 111, 114, 116, 101, 114, 46, 101, 120, 101, 99, 95, 109, 111, 100, 117, 108, 101, 35, 111, 112, 97, 113, 117, 101, 6, 196, 8, 103, 101, 116, 95, 99, 111, 100, 101, 9, 49, 95, 102, 114, 111, 122, 101, 110, 95, 105, 109, 112, 111, 114, 116, 108, 105, 98, 46, 66, 117, 105, 108, 116, 105, 110, 73, 109, 112, 111, 114, 116, 101, 114, 46, 103, 101, 116, 95, 99, 111, 100, 101, 35, 111, 112, 97, 113, 117, 101, 6, 197, 10, 103, 101, 116, 95, 115, 111, 117, 114, 99, 101, 9, 51, 95, 102, 114, 111, 122, 101, 110, 95, 105, 109, 112, 111, 114, 116, 108, 105, 98, 46, 66, 117, 105, 108, 116, 105, 110, 73, 109, 112, 111, 114, 116, 101, 114, 46, 103, 101, 116, 95, 115, 111, 117, 114, 99, 101, 35, 111, 112, 97, 113, 117, 101, 6, 198, 10, 105, 115, 95, 112, 97, 99, 107, 97, 103, 101, 9, 51, 95, 102, 114, 111, 122, 101, 110, 95, 105, 109, 112, 111, 114, 116, 108, 105, 98, 46, 66, 117, 105, 108, 116, 105, 110, 73, 109, 112, 111, 114, 116, 101, 114, 46, 105, 115, 95, 112, 97, 99, 107, 97, 103, 101, 35, 111, 112, 97, 113, 117, 101, 6, 199, 11, 108, 111, 97, 100, 95, 109, 111, 100, 117, 108, 101, 9, 52, 95, 102, 114, 111, 122, 101, 110, 95, 105, 109, 112, 111, 114, 116, 108, 105, 98, 46, 66, 117, 105, 108, 116, 105, 110, 73, 109, 112, 111, 114, 116, 101, 114, 46, 108, 111, 97, 100, 95, 109, 111, 100, 117, 108, 101, 35, 111, 112, 97, 113, 117, 101, 6, 200, 21, 95, 95, 115, 116, 97, 116, 105, 99, 95, 97, 116, 116, 114, 105, 98, 117, 116, 101, 115, 95, 95, 4, 0, 0, 15, 6, 202, 8, 95, 95, 100, 105, 99, 116, 95, 95, 4, 0, 0, 16, 6, 204, 11, 95, 95, 119, 101, 97, 107, 114, 101, 102, 95, 95, 4, 0, 0, 17]⟩ 0, .bool true, .bool true, vs "" 205, .int 21 0, .str ⟨#[6, 227, 10, 95, 95, 109, 111, 100, 117, 108, 101, 95, 95, 6, 217, 17, 95, 102, 114, 111, 122, 101, 110, 95, 105, 109, 112, 111, 114, 116, 108, 105, 98, 6, 228, 15, 95, 95, 102, 105, 114, 115, 116, 108, 105, 110, 101, 110, 111, 95, 95, 4, 218, 0, 562, 6, 229, 7, 95, 95, 100, 111, 99, 95, 95, 9, 47, 95, 102, 114, 111, 122, 101, 110, 95, 105, 109, 112, 111, 114, 116, 108, 105, 98, 46, 77, 111, 100, 117, 108, 101, 83, 112, 101, 99, 46, 95, 95, 100, 111, 99, 95, 95, 58, 115, 116, 114, 35, 111, 112, 97, 113, 117, 101, 6, 230, 8, 95, 95, 105, 110, 105, 116, 95, 95, 9, 44, 95, 102, 114, 111, 122, 101, 110, 95, 105, 109, 112, 111, 114, 116, 108, 105, 98, 46, 77, 111, 100, 117, 108, 101, 83, 112, 101, 99, 46, 95, 95, 105, 110, 105, 116, 95, 95, 35, 111, 112, 97, 113, 117, 101, 6, 231, 8, 95, 95, 114, 101, 112, 114, 95, 95, 9, 44, 95, 102, 114, 111, 122, 101, 110, 95, 105, 109, 112, 111, 114, 116, 108, 105, 98, 46, 77, 111, 100, 117, 108, 101, 83, 112, 101, 99, 46, 95, 95, 114, 101, 112, 114, 95, 95, 35, 111, 112, 97, 113, 117, 101, 6, 232, 6, 95, 95, 101, 113, 95, 95, 9, 42, 95, 102, 114, 111, 122, 101, 110, 95, 105, 109, 112, 111, 114, 116, 108, 105, 98, 46, 77, 111, 100, 117, 108, 101, 83, 112, 101, 99, 46, 95, 95, 101, 113, 95, 95, 35, 111, 112, 97, 113, 117, 101, 6, 233, 6, 99, 97, 99, 104, 101, 100, 9, 42, 95, 102, 114, 111, 122, 101, 110, 95, 105, 109, 112, 111, 114, 116, 108, 105, 98, 46, 77, 111, 100, 117, 108, 101, 83, 112, 101, 99, 46, 99, 97, 99, 104, 101, 100, 35, 111, 112, 97, 113, 117, 101, 6, 234, 6, 112, 97, 114, 101, 110, 116, 9, 42, 95, 102, 114, 111, 122, 101, 110, 95, 105, 109, 112, 111, 114, 116, 108, 105, 98, 46, 77, 111, 100, 117, 108, 101, 83, 112, 101, 99, 46, 112, 97, 114, 101, 110, 116, 35, 111, 112, 97, 113, 117, 101, 6, 235, 12, 104, 97, 115, 95, 108, 111, 99, 97, 116, 105, 111, 110, 9, 48, 95, 102, 114, 111, 122, 101, 110, 95, 105, 109, 112, 111, 114, 116, 108, 105, 98, 46, 77, 111, 100, 117, 108, 101, 83, 112, 101, 99, 46, 104, 97, 115, 95, 108, 111, 99, 97, 116, 105, 111, 110, 35, 111, 112, 97, 113, 117, 101, 6, 236, 21, 95, 95, 115, 116, 97, 116, 105, 99, 95, 97, 116, 116, 114, 105, 98, 117, 116, 101, 115, 95, 95, 4, 0, 0, 23, 6, 238, 8, 95, 95, 100, 105, 99, 116, 95, 95, 4, 0, 0, 24, 6, 240, 11, 95, 95, 119, 101, 97, 107, 114, 101, 102, 95, 95, 4, 0, 0, 25, 6, 241, 8, 95, 95, 104, 97, 115, 104, 95, 95, 0]⟩ 0, .bool true, .bool true, vs "" 242] 1, #[]⟩
noncomputable def o10 (P : Params) : Obj := ⟨.type "list", none, .seq #[] 0, #[]⟩
noncomputable def o11 (P : Params) : Obj := ⟨.type "dict", none, .dict #[de P "name" 208 (vs "_sre" 207), de P "loader" 209 (.ref 14), de P "origin" 210 (vs "built-in" 184), de P "loader_state" 211 (.none), de P "submodule_search_locations" 212 (.none), de P "_uninitialized_submodules" 213 (.ref 19), de P "_set_fileattr" 214 (.bool false), de P "_cached" 215 (.none), de P "_initializing" 243 (.bool false)] 9, #[]⟩
noncomputable def o12 (P : Params) : Obj := ⟨.type "dict", none, .dict #[de P "__module__" 227 (vs "_frozen_importlib" 217), de P "__firstlineno__" 228 (.int 562 218), de P "__doc__" 229 (.builtin "_frozen_importlib.ModuleSpec.__doc__:str#opaque"), de P "__init__" 230 (.builtin "_frozen_importlib.ModuleSpec.__init__#opaque"), de P "__repr__" 231 (.builtin "_frozen_importlib.ModuleSpec.__repr__#opaque"), de P "__eq__" 232 (.builtin "_frozen_importlib.ModuleSpec.__eq__#opaque"), de P "cached" 233 (.builtin "_frozen_importlib.ModuleSpec.cached#opaque"), de P "parent" 234 (.builtin "_frozen_importlib.ModuleSpec.parent#opaque"), de P "has_location" 235 (.builtin "_frozen_importlib.ModuleSpec.has_location#opaque"), de P "__static_attributes__" 236 (.ref 23), de P "__dict__" 238 (.ref 24), de P "__weakref__" 240 (.ref 25), de P "__hash__" 241 (.none)] 13, #[]⟩
noncomputable def o13 (P : Params) : Obj := ⟨.type "type", none, .cls ⟨"ModuleSpec", [.type "object"], [.ref 22, .type "object"], 21, "ModuleSpec", true, [], [], false, none, false⟩, #[]⟩
noncomputable def o14 (P : Params) : Obj := ⟨.type "tuple", none, .seq #[vs "_cached" 219, vs "_set_fileattr" 220, vs "_uninitialized_submodules" 221, vs "loader" 222, vs "loader_state" 223, vs "name" 224, vs "origin" 225, vs "submodule_search_locations" 226] 0, #[]⟩
noncomputable def o15 (P : Params) : Obj := ⟨.type "getset_descriptor", none, .fields #[vs "__dict__" 237, .ref 22, .builtin "function.__dict__", .builtin "function.__dict__#set"], #[]⟩
noncomputable def o16 (P : Params) : Obj := ⟨.type "getset_descriptor", none, .fields #[vs "__weakref__" 239, .ref 22, .builtin "ExceptionGroup.__weakref__", .none], #[]⟩
noncomputable def o17 (P : Params) : Obj := ⟨.ref 22, (some 20), .plain, #[]⟩
noncomputable def o18 (P : Params) : Obj := ⟨.none, none, .seq #[.int 11 0, .str ⟨#[6, 247, 8, 95, 95, 110, 97, 109, 101, 95, 95, 6, 246, 4, 95, 115, 114, 101, 6, 248, 7, 95, 95, 100, 111, 99, 95, 95, 0, 6, 250, 11, 95, 95, 112, 97, 99, 107, 97, 103, 101, 95, 95, 6, 249, 0, 6, 251, 10, 95, 95, 108, 111, 97, 100, 101, 114, 95, 95, 4, 0, 0, 14, 6, 252, 8, 95, 95, 115, 112, 101, 99, 95, 95, 4, 0, 0, 26, 6, 253, 7, 99, 111, 109, 112, 105, 108, 101, 9, 12, 95, 115, 114, 101, 46, 99, 111, 109, 112, 105, 108, 101, 6, 254, 8, 116, 101, 109, 112, 108, 97, 116, 101, 9, 13, 95, 115, 114, 101, 46, 116, 101, 109, 112, 108, 97, 116, 101, 6, 255, 11, 103, 101, 116, 99, 111, 100, 101, 115, 105, 122, 101, 9, 16, 95, 115, 114, 101, 46, 103, 101, 116, 99, 111, 100, 101, 115, 105, 122, 101, 6, 256, 13, 97, 115, 99, 105, 105, 95, 105, 115, 99, 97, 115, 101, 100, 9, 18, 95, 115, 114, 101, 46, 97, 115, 99, 105, 105, 95, 105, 115, 99, 97, 115, 101, 100, 6, 257, 15, 117, 110, 105, 99, 111, 100, 101, 95, 105, 115, 99, 97, 115, 101, 100, 9, 20, 95, 115, 114, 101, 46, 117, 110, 105, 99, 111, 100, 101, 95, 105, 115, 99, 97, 115, 101, 100, 6, 258, 13, 97, 115, 99, 105, 105, 95, 116, 111, 108, 111, 119, 101, 114, 9, 18, 95, 115, 114, 101, 46, 97, 115, 99, 105, 105, 95, 116, 111, 108, 111, 119, 101, 114, 6, 259, 15, 117, 110, 105, 99, 111, 100, 101, 95, 116, 111, 108, 111, 119, 101, 114, 9, 20, 95, 115, 114, 101, 46, 117, 110, 105, 99, 111, 100, 101, 95, 116, 111, 108, 111, 119, 101, 114, 6, 261, 5, 77, 65, 71, 73, 67, 4, 260, 0, 20230612, 6, 263, 8, 67, 79, 68, 69, 83, 73, 90, 69, 4, 262, 0, 4, 6, 265, 9, 77, 65, 88, 82, 69, 80, 69, 65, 84, 4, 264, 0, 4294967295, 6, 267, 9, 77, 65, 88, 71, 82, 79, 85, 80, 83, 4, 266, 0, 1073741823, 6, 269, 9, 99, 111, 112, 121, 114, 105, 103, 104, 116, 6, 268, 53, 32, 83, 82, 69, 32, 50, 46, 50, 46, 50, 32, 67, 111, 112, 121, 114, 105, 103, 104, 116, 32, 40, 99, 41, 32, 49, 57, 57, 55, 45, 50, 48, 48, 50, 32, 98, 121, 32, 83, 101, 99, 114, 101, 116, 32, 76, 97, 98, 115, 32, 65, 66, 32]⟩ 0, .bool true, .bool false, vs "_sre" 271] 0, #[]⟩
noncomputable def o19 (P : Params) : Obj := ⟨.type "dict", none, .dict #[de P "__name__" 247 (vs "_sre" 246), de P "__doc__" 248 (.none), de P "__package__" 250 (vs "" 249), de P "__loader__" 251 (.builtin "off-the-table:_sre.__loader__:shared#opaque"), de P "__spec__" 252 (.builtin "off-the-table:_sre.__spec__:shared#opaque"), de P "compile" 253 (.builtin "_sre.compile"), de P "template" 254 (.builtin "off-the-table:_sre.template:shared#opaque"), de P "getcodesize" 255 (.builtin "off-the-table:_sre.getcodesize:shared#opaque"), de P "ascii_iscased" 256 (.builtin "off-the-table:_sre.ascii_iscased:shared#opaque"), de P "unicode_iscased" 257 (.builtin "off-the-table:_sre.unicode_iscased:shared#opaque"), de P "ascii_tolower" 258 (.builtin "off-the-table:_sre.ascii_tolower:shared#opaque"), de P "unicode_tolower" 259 (.builtin "off-the-table:_sre.unicode_tolower:shared#opaque"), de P "MAGIC" 261 (.int 20230612 260), de P "CODESIZE" 263 (.int 4 262), de P "MAXREPEAT" 265 (.int 4294967295 264), de P "MAXGROUPS" 267 (.int 1073741823 266), de P "copyright" 269 (vs " SRE 2.2.2 Copyright (c) 1997-2002 by Secret Labs AB " 268)] 17, #[]⟩
noncomputable def o20 (P : Params) : Obj := ⟨.type "code", none, .fields #[vs "<module>" 277, vs "<module>" 278, vs "/claim/cut.py" 279, .int 1 0, .int 0 0, .int 0 0, .int 0 0, .int 0 0, .ref 28, .bool false, .int 276 0, .ref 29, .none, .none, .none, .none, .int 280 0, .int 1 0, vs "/claim/cut.py" 281], #[]⟩
noncomputable def o21 (P : Params) : Obj := ⟨.type "frame", none, .plain, #[some (.ref 30), some (.ref 3), some (.ref 3), none, some (vs "__main__" 164), none, some (.ref 0)]⟩
noncomputable def o22 (P : Params) : Obj := ⟨.type "dict", none, .dict #[de P "__name__" 165 (vs "icalendar.parser.parameter" 529), de P "__doc__" 166 (.none), de P "__package__" 167 (.none), de P "__loader__" 168 (.builtin "__main__.__loader__#opaque"), de P "__spec__" 169 (.none), de P "__annotations__" 170 (.ref 6), de P "__builtins__" 171 (.ref 4), de P "__file__" 173 (vs "/claim/cut.py" 172), de P "__cached__" 174 (.none), de P "_sre" 275 (.ref 12), de P "_wall" 288 (.ref 38), de P "SEQUENCE_TYPES" 291 (.ref 39), de P "DEFAULT_ENCODING" 293 (vs "utf-8" 292), de P "to_unicode" 302 (.ref 47), de P "CaselessDict" 462 (.ref 174), de P "_foldline" 481 (.ref 186), de P "_escape_string" 488 (.ref 193), de P "_unescape_string" 495 (.ref 200), de P "NAME" 520 (.ref 205), de P "validate_token" 528 (.ref 212), de P "param_value" 536 (.ref 218), de P "UNSAFE_CHAR" 570 (.ref 223), de P "QUNSAFE_CHAR" 604 (.ref 228), de P "validate_param_value" 613 (.ref 236)] 24, #[]⟩
noncomputable def o23 (P : Params) : Obj := ⟨.none, none, .fields #[.int 2 0, .int 0 0, .ref 37, .int 8 0, .int 0 0, .ref 46, .int 16 0, .int 0 0, .ref 54, .int 79 0, .int 0 0, .ref 185, .int 102 0, .int 0 0, .ref 192, .int 104 0, .int 0 0, .ref 199, .int 107 0, .int 0 0, .ref 211, .int 113 0, .int 0 0, .ref 217, .int 121 0, .int 0 0, .ref 235], #[]⟩
noncomputable def o24 (P : Params) : Obj := ⟨.type "tuple", none, .seq #[vs "k" 285] 0, #[]⟩
noncomputable def o25 (P : Params) : Obj := ⟨.none, none, .func (fn (tp 1) "_wall" 0 [] (.none) (.none) (.none) (.none) none (.none) (.none) 0), #[]⟩
noncomputable def o26 (P : Params) : Obj := ⟨.type "code", none, .fields #[vs "_wall" 282, vs "_wall" 283, vs "/claim/cut.py" 284, .int 2 0, .int 1 0, .int 0 0, .int 0 0, .int 3 0, .ref 32, .bool true, .int 276 0, .ref 33, .none, .ref 34, .ref 35, .ref 36, .int 286 0, .int 2 0, vs "/claim/cut.py" 287], #[]⟩
noncomputable def o27 (P : Params) : Obj := ⟨.type "function", none, .func (fn (tp 1) "_wall" 3 [] (.none) (.none) (.none) (vs "__main__" 164) none (.ref 37) (.none) 0), #[]⟩
noncomputable def o28 (P : Params) : Obj := ⟨.type "tuple", none, .seq #[.type "list", .type "tuple"] 0, #[]⟩
noncomputable def o29 (P : Params) : Obj := ⟨.type "tuple", none, .seq #[vs "utf-8-sig" 294] 0, #[]⟩
noncomputable def o30 (P : Params) : Obj := ⟨.type "tuple", none, .seq #[vs "value" 298, vs "encoding" 299] 0, #[]⟩
noncomputable def o31 (P : Params) : Obj := ⟨.none, none, .func (fn (tp 5) "to_unicode" 0 [] (.none) (.none) (.none) (.none) none (.none) (.none) 0), #[]⟩
noncomputable def o32 (P : Params) : Obj := ⟨.type "code", none, .fields #[vs "to_unicode" 295, vs "to_unicode" 296, vs "/claim/cut.py" 297, .int 8 0, .int 2 0, .int 0 0, .int 0 0, .int 3 0, .ref 41, .bool true, .int 276 0, .ref 42, .none, .ref 43, .ref 44, .ref 45, .int 300 0, .int 8 0, vs "/claim/cut.py" 301], #[]⟩
noncomputable def o33 (P : Params) : Obj := ⟨.type "function", none, .func (fn (tp 5) "to_unicode" 3 [] (.ref 40) (.none) (.none) (vs "icalendar.parser_tools" 289) none (.ref 46) (.none) 0), #[]⟩
noncomputable def o34 (P : Params) : Obj := ⟨.type "tuple", none, .seq #[.type "dict"] 0, #[]⟩
noncomputable def o35 (P : Params) : Obj := ⟨.type "builtin_function_or_method", none, .fields #[.builtin "type.__prepare__", .type "type"], #[]⟩
noncomputable def o36 (P : Params) : Obj := ⟨.type "dict", none, .dict #[de P "__module__" 312 (vs "icalendar.caselessdict" 303), de P "__qualname__" 314 (vs "CaselessDict" 313), de P "__firstlineno__" 316 (.int 16 315), de P "__init__" 326 (.ref 63), de P "__getitem__" 335 (.ref 71), de P "__setitem__" 345 (.ref 79), de P "__delitem__" 354 (.ref 87), de P "__contains__" 363 (.ref 95), de P "get" 373 (.ref 104), de P "setdefault" 383 (.ref 113), de P "pop" 393 (.ref 122), de P "popitem" 400 (.ref 129), de P "has_key" 408 (.ref 136), de P "update" 421 (.ref 143), de P "__eq__" 429 (.ref 150), de P "__ne__" 437 (.ref 157), de P "canonical_order" 438 (.none), de P "sorted_keys" 445 (.ref 164), de P "sorted_items" 452 (.ref 171), de P "__static_attributes__" 453 (.ref 172), de P "__classcell__" 454 (.ref 51)] 21, #[]⟩
noncomputable def o37 (P : Params) : Obj := ⟨.type "cell", none, .cell (some (.ref 174)), #[]⟩
noncomputable def o38 (P : Params) : Obj := ⟨.none, none, .fields #[.int 18 0, .int 4 0, .ref 62, .int 22 0, .int 4 0, .ref 70, .int 26 0, .int 4 0, .ref 78, .int 30 0, .int 4 0, .ref 86, .int 34 0, .int 4 0, .ref 94, .int 38 0, .int 4 0, .ref 103, .int 42 0, .int 4 0, .ref 112, .int 46 0, .int 4 0, .ref 121, .int 50 0, .int 4 0, .ref 128, .int 53 0, .int 4 0, .ref 135, .int 56 0, .int 4 0, .ref 142, .int 64 0, .int 4 0, .ref 149, .int 69 0, .int 4 0, .ref 156, .int 73 0, .int 4 0, .ref 163, .int 76 0, .int 4 0, .ref 170], #[]⟩
noncomputable def o39 (P : Params) : Obj := ⟨.type "code", none, .fields #[vs "CaselessDict" 307, vs "CaselessDict" 308, vs "/claim/cut.py" 309, .int 16 0, .int 0 0, .int 0 0, .int 0 0, .int 0 0, .ref 52, .bool false, .int 276 0, .ref 53, .none, .none, .none, .none, .int 310 0, .int 16 0, vs "/claim/cut.py" 311], #[]⟩
noncomputable def o40 (P : Params) : Obj := ⟨.type "frame", none, .plain, #[some (.ref 54), some (.ref 3), some (.ref 50), none, some (vs "icalendar.caselessdict" 303), none, some (.ref 0)]⟩
noncomputable def o41 (P : Params) : Obj := ⟨.type "tuple", none, .seq #[.ref 51] 0, #[]⟩
noncomputable def o42 (P : Params) : Obj := ⟨.type "tuple", none, .seq #[vs "__class__" 320] 0, #[]⟩
noncomputable def o43 (P : Params) : Obj := ⟨.type "tuple", none, .seq #[vs "self" 321, vs "args" 322, vs "kwargs" 323] 0, #[]⟩
noncomputable def o44 (P : Params) : Obj := ⟨.type "tuple", none, .seq #[] 0, #[]⟩
noncomputable def o45 (P : Params) : Obj := ⟨.none, none, .func (fn (inn 7 0) "CaselessDict.__init__" 0 [] (.none) (.none) (.none) (.none) none (.none) (.none) 0), #[]⟩
noncomputable def o46 (P : Params) : Obj := ⟨.type "code", none, .fields #[vs "__init__" 317, vs "CaselessDict.__init__" 318, vs "/claim/cut.py" 319, .int 18 0, .int 1 0, .int 0 0, .int 0 0, .int 15 0, .ref 57, .bool true, .int 276 0, .ref 58, .none, .ref 59, .ref 60, .ref 61, .int 324 0, .int 18 0, vs "/claim/cut.py" 325], #[]⟩
noncomputable def o47 (P : Params) : Obj := ⟨.type "function", none, .func (fn (inn 7 0) "CaselessDict.__init__" 3 [("__class__", 51)] (.none) (.none) (.none) (vs "icalendar.caselessdict" 303) none (.ref 62) (.ref 56) 0), #[]⟩
noncomputable def o48 (P : Params) : Obj := ⟨.type "tuple", none, .seq #[vs "__class__" 330] 0, #[]⟩
noncomputable def o49 (P : Params) : Obj := ⟨.none, none, .fields #[], #[]⟩
noncomputable def o50 (P : Params) : Obj := ⟨.type "tuple", none, .seq #[vs "self" 331, vs "key" 332] 0, #[]⟩
noncomputable def o51 (P : Params) : Obj := ⟨.none, none, .func (fn (inn 7 1) "CaselessDict.__getitem__" 0 [] (.none) (.none) (.none) (.none) none (.none) (.none) 0), #[]⟩
noncomputable def o52 (P : Params) : Obj := ⟨.type "code", none, .fields #[vs "__getitem__" 327, vs "CaselessDict.__getitem__" 328, vs "/claim/cut.py" 329, .int 22 0, .int 2 0, .int 0 0, .int 0 0, .int 3 0, .ref 65, .bool true, .int 276 0, .ref 66, .none, .ref 67, .ref 68, .ref 69, .int 333 0, .int 22 0, vs "/claim/cut.py" 334], #[]⟩
noncomputable def o53 (P : Params) : Obj := ⟨.type "function", none, .func (fn (inn 7 1) "CaselessDict.__getitem__" 3 [("__class__", 51)] (.none) (.none) (.none) (vs "icalendar.caselessdict" 303) none (.ref 70) (.ref 64) 0), #[]⟩
noncomputable def o54 (P : Params) : Obj := ⟨.type "tuple", none, .seq #[vs "__class__" 339] 0, #[]⟩
noncomputable def o55 (P : Params) : Obj := ⟨.type "tuple", none, .seq #[vs "self" 340, vs "key" 341, vs "value" 342] 0, #[]⟩
noncomputable def o56 (P : Params) : Obj := ⟨.none, none, .func (fn (inn 7 2) "CaselessDict.__setitem__" 0 [] (.none) (.none) (.none) (.none) none (.none) (.none) 0), #[]⟩
noncomputable def o57 (P : Params) : Obj := ⟨.type "code", none, .fields #[vs "__setitem__" 336, vs "CaselessDict.__setitem__" 337, vs "/claim/cut.py" 338, .int 26 0, .int 3 0, .int 0 0, .int 0 0, .int 3 0, .ref 73, .bool true, .int 276 0, .ref 74, .none, .ref 75, .ref 76, .ref 77, .int 343 0, .int 26 0, vs "/claim/cut.py" 344], #[]⟩
noncomputable def o58 (P : Params) : Obj := ⟨.type "function", none, .func (fn (inn 7 2) "CaselessDict.__setitem__" 3 [("__class__", 51)] (.none) (.none) (.none) (vs "icalendar.caselessdict" 303) none (.ref 78) (.ref 72) 0), #[]⟩
noncomputable def o59 (P : Params) : Obj := ⟨.type "tuple", none, .seq #[vs "__class__" 349] 0, #[]⟩
noncomputable def o60 (P : Params) : Obj := ⟨.type "tuple", none, .seq #[vs "self" 350, vs "key" 351] 0, #[]⟩
noncomputable def o61 (P : Params) : Obj := ⟨.none, none, .func (fn (inn 7 3) "CaselessDict.__delitem__" 0 [] (.none) (.none) (.none) (.none) none (.none) (.none) 0), #[]⟩
noncomputable def o62 (P : Params) : Obj := ⟨.type "code", none, .fields #[vs "__delitem__" 346, vs "CaselessDict.__delitem__" 347, vs "/claim/cut.py" 348, .int 30 0, .int 2 0, .int 0 0, .int 0 0, .int 3 0, .ref 81, .bool true, .int 276 0, .ref 82, .none, .ref 83, .ref 84, .ref 85, .int 352 0, .int 30 0, vs "/claim/cut.py" 353], #[]⟩
noncomputable def o63 (P : Params) : Obj := ⟨.type "function", none, .func (fn (inn 7 3) "CaselessDict.__delitem__" 3 [("__class__", 51)] (.none) (.none) (.none) (vs "icalendar.caselessdict" 303) none (.ref 86) (.ref 80) 0), #[]⟩
noncomputable def o64 (P : Params) : Obj := ⟨.type "tuple", none, .seq #[vs "__class__" 358] 0, #[]⟩
noncomputable def o65 (P : Params) : Obj := ⟨.type "tuple", none, .seq #[vs "self" 359, vs "key" 360] 0, #[]⟩
noncomputable def o66 (P : Params) : Obj := ⟨.none, none, .func (fn (inn 7 4) "CaselessDict.__contains__" 0 [] (.none) (.none) (.none) (.none) none (.none) (.none) 0), #[]⟩
noncomputable def o67 (P : Params) : Obj := ⟨.type "code", none, .fields #[vs "__contains__" 355, vs "CaselessDict.__contains__" 356, vs "/claim/cut.py" 357, .int 34 0, .int 2 0, .int 0 0, .int 0 0, .int 3 0, .ref 89, .bool true, .int 276 0, .ref 90, .none, .ref 91, .ref 92, .ref 93, .int 361 0, .int 34 0, vs "/claim/cut.py" 362], #[]⟩
noncomputable def o68 (P : Params) : Obj := ⟨.type "function", none, .func (fn (inn 7 4) "CaselessDict.__contains__" 3 [("__class__", 51)] (.none) (.none) (.none) (vs "icalendar.caselessdict" 303) none (.ref 94) (.ref 88) 0), #[]⟩
noncomputable def o69 (P : Params) : Obj := ⟨.type "tuple", none, .seq #[.none] 0, #[]⟩
noncomputable def o70 (P : Params) : Obj := ⟨.type "tuple", none, .seq #[vs "__class__" 367] 0, #[]⟩
noncomputable def o71 (P : Params) : Obj := ⟨.type "tuple", none, .seq #[vs "self" 368, vs "key" 369, vs "default" 370] 0, #[]⟩
noncomputable def o72 (P : Params) : Obj := ⟨.none, none, .func (fn (inn 7 5) "CaselessDict.get" 0 [] (.none) (.none) (.none) (.none) none (.none) (.none) 0), #[]⟩
noncomputable def o73 (P : Params) : Obj := ⟨.type "code", none, .fields #[vs "get" 364, vs "CaselessDict.get" 365, vs "/claim/cut.py" 366, .int 38 0, .int 3 0, .int 0 0, .int 0 0, .int 3 0, .ref 98, .bool true, .int 276 0, .ref 99, .none, .ref 100, .ref 101, .ref 102, .int 371 0, .int 38 0, vs "/claim/cut.py" 372], #[]⟩
noncomputable def o74 (P : Params) : Obj := ⟨.type "function", none, .func (fn (inn 7 5) "CaselessDict.get" 3 [("__class__", 51)] (.ref 96) (.none) (.none) (vs "icalendar.caselessdict" 303) none (.ref 103) (.ref 97) 0), #[]⟩
noncomputable def o75 (P : Params) : Obj := ⟨.type "tuple", none, .seq #[vs "__class__" 377] 0, #[]⟩
noncomputable def o76 (P : Params) : Obj := ⟨.type "tuple", none, .seq #[vs "self" 378, vs "key" 379, vs "value" 380] 0, #[]⟩
noncomputable def o77 (P : Params) : Obj := ⟨.none, none, .func (fn (inn 7 6) "CaselessDict.setdefault" 0 [] (.none) (.none) (.none) (.none) none (.none) (.none) 0), #[]⟩
noncomputable def o78 (P : Params) : Obj := ⟨.type "code", none, .fields #[vs "setdefault" 374, vs "CaselessDict.setdefault" 375, vs "/claim/cut.py" 376, .int 42 0, .int 3 0, .int 0 0, .int 0 0, .int 3 0, .ref 107, .bool true, .int 276 0, .ref 108, .none, .ref 109, .ref 110, .ref 111, .int 381 0, .int 42 0, vs "/claim/cut.py" 382], #[]⟩
noncomputable def o79 (P : Params) : Obj := ⟨.type "function", none, .func (fn (inn 7 6) "CaselessDict.setdefault" 3 [("__class__", 51)] (.ref 105) (.none) (.none) (vs "icalendar.caselessdict" 303) none (.ref 112) (.ref 106) 0), #[]⟩
noncomputable def o80 (P : Params) : Obj := ⟨.type "tuple", none, .seq #[vs "__class__" 387] 0, #[]⟩
noncomputable def o81 (P : Params) : Obj := ⟨.type "tuple", none, .seq #[vs "self" 388, vs "key" 389, vs "default" 390] 0, #[]⟩
noncomputable def o82 (P : Params) : Obj := ⟨.none, none, .func (fn (inn 7 7) "CaselessDict.pop" 0 [] (.none) (.none) (.none) (.none) none (.none) (.none) 0), #[]⟩
noncomputable def o83 (P : Params) : Obj := ⟨.type "code", none, .fields #[vs "pop" 384, vs "CaselessDict.pop" 385, vs "/claim/cut.py" 386, .int 46 0, .int 3 0, .int 0 0, .int 0 0, .int 3 0, .ref 116, .bool true, .int 276 0, .ref 117, .none, .ref 118, .ref 119, .ref 120, .int 391 0, .int 46 0, vs "/claim/cut.py" 392], #[]⟩
noncomputable def o84 (P : Params) : Obj := ⟨.type "function", none, .func (fn (inn 7 7) "CaselessDict.pop" 3 [("__class__", 51)] (.ref 114) (.none) (.none) (vs "icalendar.caselessdict" 303) none (.ref 121) (.ref 115) 0), #[]⟩
noncomputable def o85 (P : Params) : Obj := ⟨.type "tuple", none, .seq #[vs "self" 397] 0, #[]⟩
noncomputable def o86 (P : Params) : Obj := ⟨.none, none, .func (fn (inn 7 8) "CaselessDict.popitem" 0 [] (.none) (.none) (.none) (.none) none (.none) (.none) 0), #[]⟩
noncomputable def o87 (P : Params) : Obj := ⟨.type "code", none, .fields #[vs "popitem" 394, vs "CaselessDict.popitem" 395, vs "/claim/cut.py" 396, .int 50 0, .int 1 0, .int 0 0, .int 0 0, .int 3 0, .ref 123, .bool true, .int 276 0, .ref 124, .none, .ref 125, .ref 126, .ref 127, .int 398 0, .int 50 0, vs "/claim/cut.py" 399], #[]⟩
noncomputable def o88 (P : Params) : Obj := ⟨.type "function", none, .func (fn (inn 7 8) "CaselessDict.popitem" 3 [] (.none) (.none) (.none) (vs "icalendar.caselessdict" 303) none (.ref 128) (.none) 0), #[]⟩
noncomputable def o89 (P : Params) : Obj := ⟨.type "tuple", none, .seq #[vs "self" 404, vs "key" 405] 0, #[]⟩
noncomputable def o90 (P : Params) : Obj := ⟨.none, none, .func (fn (inn 7 9) "CaselessDict.has_key" 0 [] (.none) (.none) (.none) (.none) none (.none) (.none) 0), #[]⟩
noncomputable def o91 (P : Params) : Obj := ⟨.type "code", none, .fields #[vs "has_key" 401, vs "CaselessDict.has_key" 402, vs "/claim/cut.py" 403, .int 53 0, .int 2 0, .int 0 0, .int 0 0, .int 3 0, .ref 130, .bool true, .int 276 0, .ref 131, .none, .ref 132, .ref 133, .ref 134, .int 406 0, .int 53 0, vs "/claim/cut.py" 407], #[]⟩
noncomputable def o92 (P : Params) : Obj := ⟨.type "function", none, .func (fn (inn 7 9) "CaselessDict.has_key" 3 [] (.none) (.none) (.none) (vs "icalendar.caselessdict" 303) none (.ref 135) (.none) 0), #[]⟩
noncomputable def o93 (P : Params) : Obj := ⟨.type "tuple", none, .seq #[vs "self" 412, vs "args" 413, vs "kwargs" 414, vs "mappings" 415, vs "mapping" 416, vs "key" 417, vs "value" 418] 0, #[]⟩
noncomputable def o94 (P : Params) : Obj := ⟨.none, none, .func (fn (inn 7 10) "CaselessDict.update" 0 [] (.none) (.none) (.none) (.none) none (.none) (.none) 0), #[]⟩
noncomputable def o95 (P : Params) : Obj := ⟨.type "code", none, .fields #[vs "update" 409, vs "CaselessDict.update" 410, vs "/claim/cut.py" 411, .int 56 0, .int 1 0, .int 0 0, .int 0 0, .int 15 0, .ref 137, .bool true, .int 276 0, .ref 138, .none, .ref 139, .ref 140, .ref 141, .int 419 0, .int 56 0, vs "/claim/cut.py" 420], #[]⟩
noncomputable def o96 (P : Params) : Obj := ⟨.type "function", none, .func (fn (inn 7 10) "CaselessDict.update" 3 [] (.none) (.none) (.none) (vs "icalendar.caselessdict" 303) none (.ref 142) (.none) 0), #[]⟩
noncomputable def o97 (P : Params) : Obj := ⟨.type "tuple", none, .seq #[vs "self" 425, vs "other" 426] 0, #[]⟩
noncomputable def o98 (P : Params) : Obj := ⟨.none, none, .func (fn (inn 7 11) "CaselessDict.__eq__" 0 [] (.none) (.none) (.none) (.none) none (.none) (.none) 0), #[]⟩
noncomputable def o99 (P : Params) : Obj := ⟨.type "code", none, .fields #[vs "__eq__" 422, vs "CaselessDict.__eq__" 423, vs "/claim/cut.py" 424, .int 64 0, .int 2 0, .int 0 0, .int 0 0, .int 3 0, .ref 144, .bool true, .int 276 0, .ref 145, .none, .ref 146, .ref 147, .ref 148, .int 427 0, .int 64 0, vs "/claim/cut.py" 428], #[]⟩
noncomputable def o100 (P : Params) : Obj := ⟨.type "function", none, .func (fn (inn 7 11) "CaselessDict.__eq__" 3 [] (.none) (.none) (.none) (vs "icalendar.caselessdict" 303) none (.ref 149) (.none) 0), #[]⟩
noncomputable def o101 (P : Params) : Obj := ⟨.type "tuple", none, .seq #[vs "self" 433, vs "other" 434] 0, #[]⟩
noncomputable def o102 (P : Params) : Obj := ⟨.none, none, .func (fn (inn 7 12) "CaselessDict.__ne__" 0 [] (.none) (.none) (.none) (.none) none (.none) (.none) 0), #[]⟩
noncomputable def o103 (P : Params) : Obj := ⟨.type "code", none, .fields #[vs "__ne__" 430, vs "CaselessDict.__ne__" 431, vs "/claim/cut.py" 432, .int 69 0, .int 2 0, .int 0 0, .int 0 0, .int 3 0, .ref 151, .bool true, .int 276 0, .ref 152, .none, .ref 153, .ref 154, .ref 155, .int 435 0, .int 69 0, vs "/claim/cut.py" 436], #[]⟩
noncomputable def o104 (P : Params) : Obj := ⟨.type "function", none, .func (fn (inn 7 12) "CaselessDict.__ne__" 3 [] (.none) (.none) (.none) (vs "icalendar.caselessdict" 303) none (.ref 156) (.none) 0), #[]⟩
noncomputable def o105 (P : Params) : Obj := ⟨.type "tuple", none, .seq #[vs "self" 442] 0, #[]⟩
noncomputable def o106 (P : Params) : Obj := ⟨.none, none, .func (fn (inn 7 14) "CaselessDict.sorted_keys" 0 [] (.none) (.none) (.none) (.none) none (.none) (.none) 0), #[]⟩
noncomputable def o107 (P : Params) : Obj := ⟨.type "code", none, .fields #[vs "sorted_keys" 439, vs "CaselessDict.sorted_keys" 440, vs "/claim/cut.py" 441, .int 73 0, .int 1 0, .int 0 0, .int 0 0, .int 3 0, .ref 158, .bool true, .int 276 0, .ref 159, .none, .ref 160, .ref 161, .ref 162, .int 443 0, .int 73 0, vs "/claim/cut.py" 444], #[]⟩
noncomputable def o108 (P : Params) : Obj := ⟨.type "function", none, .func (fn (inn 7 14) "CaselessDict.sorted_keys" 3 [] (.none) (.none) (.none) (vs "icalendar.caselessdict" 303) none (.ref 163) (.none) 0), #[]⟩
noncomputable def o109 (P : Params) : Obj := ⟨.type "tuple", none, .seq #[vs "self" 449] 0, #[]⟩
noncomputable def o110 (P : Params) : Obj := ⟨.none, none, .func (fn (inn 7 15) "CaselessDict.sorted_items" 0 [] (.none) (.none) (.none) (.none) none (.none) (.none) 0), #[]⟩
noncomputable def o111 (P : Params) : Obj := ⟨.type "code", none, .fields #[vs "sorted_items" 446, vs "CaselessDict.sorted_items" 447, vs "/claim/cut.py" 448, .int 76 0, .int 1 0, .int 0 0, .int 0 0, .int 3 0, .ref 165, .bool true, .int 276 0, .ref 166, .none, .ref 167, .ref 168, .ref 169, .int 450 0, .int 76 0, vs "/claim/cut.py" 451], #[]⟩
noncomputable def o112 (P : Params) : Obj := ⟨.type "function", none, .func (fn (inn 7 15) "CaselessDict.sorted_items" 3 [] (.none) (.none) (.none) (vs "icalendar.caselessdict" 303) none (.ref 170) (.none) 0), #[]⟩
noncomputable def o113 (P : Params) : Obj := ⟨.type "dict", none, .dict #[de P "__module__" 312 (vs "icalendar.caselessdict" 303), de P "__firstlineno__" 316 (.int 16 315), de P "__init__" 326 (.ref 63), de P "__getitem__" 335 (.ref 71), de P "__setitem__" 345 (.ref 79), de P "__delitem__" 354 (.ref 87), de P "__contains__" 363 (.ref 95), de P "get" 373 (.ref 104), de P "setdefault" 383 (.ref 113), de P "pop" 393 (.ref 122), de P "popitem" 400 (.ref 129), de P "has_key" 408 (.ref 136), de P "update" 421 (.ref 143), de P "__eq__" 429 (.ref 150), de P "__ne__" 437 (.ref 157), de P "canonical_order" 438 (.none), de P "sorted_keys" 445 (.ref 164), de P "sorted_items" 452 (.ref 171), de P "__static_attributes__" 453 (.ref 172), de P "__dict__" 456 (.ref 175), de P "__weakref__" 458 (.ref 176), de P "__doc__" 459 (.none), de P "__hash__" 460 (.none)] 6, #[]⟩
noncomputable def o114 (P : Params) : Obj := ⟨.type "type", none, .cls ⟨"CaselessDict", [.type "dict"], [.ref 174, .type "dict", .type "object"], 173, "CaselessDict", true, [], [], false, none, false⟩, #[some (.ref 48), none, some (vs "CaselessDict" 305), some (vs "CaselessDict" 313), some (.builtin "dict.__new__"), some (.bool true)]⟩
noncomputable def o115 (P : Params) : Obj := ⟨.type "getset_descriptor", none, .fields #[vs "__dict__" 455, .ref 174, .builtin "function.__dict__", .builtin "function.__dict__#set"], #[]⟩
noncomputable def o116 (P : Params) : Obj := ⟨.type "getset_descriptor", none, .fields #[vs "__weakref__" 457, .ref 174, .builtin "ExceptionGroup.__weakref__", .none], #[]⟩
noncomputable def o117 (P : Params) : Obj := ⟨.type "super", none, .fields #[.ref 174, .ref 174, .ref 174], #[]⟩
noncomputable def o118 (P : Params) : Obj := ⟨.type "builtin_function_or_method", none, .fields #[.builtin "object.__init_subclass__", .ref 174], #[]⟩
noncomputable def o119 (P : Params) : Obj := ⟨.type "tuple", none, .seq #[.int 75 465, .str ⟨#[13, 10, 32]⟩ 466] 0, #[]⟩
noncomputable def o120 (P : Params) : Obj := ⟨.type "tuple", none, .seq #[vs "line" 470, vs "limit" 471, vs "fold_sep" 472, vs "folded_lines" 473, vs "current_chars" 474, vs "byte_count" 475, vs "char" 476, vs "char_byte_len" 477, vs "escaped_prefix" 478] 0, #[]⟩
noncomputable def o121 (P : Params) : Obj := ⟨.none, none, .func (fn (tp 9) "_foldline" 0 [] (.none) (.none) (.none) (.none) none (.none) (.none) 0), #[]⟩
noncomputable def o122 (P : Params) : Obj := ⟨.type "code", none, .fields #[vs "_foldline" 467, vs "_foldline" 468, vs "/claim/cut.py" 469, .int 79 0, .int 3 0, .int 0 0, .int 0 0, .int 3 0, .ref 180, .bool true, .int 276 0, .ref 181, .none, .ref 182, .ref 183, .ref 184, .int 479 0, .int 79 0, vs "/claim/cut.py" 480], #[]⟩
noncomputable def o123 (P : Params) : Obj := ⟨.type "function", none, .func (fn (tp 9) "_foldline" 3 [] (.ref 179) (.none) (.none) (vs "icalendar.parser.string" 463) none (.ref 185) (.none) 0), #[]⟩
noncomputable def o124 (P : Params) : Obj := ⟨.type "tuple", none, .seq #[vs "val" 485] 0, #[]⟩
noncomputable def o125 (P : Params) : Obj := ⟨.none, none, .func (fn (tp 10) "_escape_string" 0 [] (.none) (.none) (.none) (.none) none (.none) (.none) 0), #[]⟩
noncomputable def o126 (P : Params) : Obj := ⟨.type "code", none, .fields #[vs "_escape_string" 482, vs "_escape_string" 483, vs "/claim/cut.py" 484, .int 102 0, .int 1 0, .int 0 0, .int 0 0, .int 3 0, .ref 187, .bool true, .int 276 0, .ref 188, .none, .ref 189, .ref 190, .ref 191, .int 486 0, .int 102 0, vs "/claim/cut.py" 487], #[]⟩
noncomputable def o127 (P : Params) : Obj := ⟨.type "function", none, .func (fn (tp 10) "_escape_string" 3 [] (.none) (.none) (.none) (vs "icalendar.parser.string" 463) none (.ref 192) (.none) 0), #[]⟩
noncomputable def o128 (P : Params) : Obj := ⟨.type "tuple", none, .seq #[vs "val" 492] 0, #[]⟩
noncomputable def o129 (P : Params) : Obj := ⟨.none, none, .func (fn (tp 11) "_unescape_string" 0 [] (.none) (.none) (.none) (.none) none (.none) (.none) 0), #[]⟩
noncomputable def o130 (P : Params) : Obj := ⟨.type "code", none, .fields #[vs "_unescape_string" 489, vs "_unescape_string" 490, vs "/claim/cut.py" 491, .int 104 0, .int 1 0, .int 0 0, .int 0 0, .int 3 0, .ref 194, .bool true, .int 276 0, .ref 195, .none, .ref 196, .ref 197, .ref 198, .int 493 0, .int 104 0, vs "/claim/cut.py" 494], #[]⟩
noncomputable def o131 (P : Params) : Obj := ⟨.type "function", none, .func (fn (tp 11) "_unescape_string" 3 [] (.none) (.none) (.none) (vs "icalendar.parser.string" 463) none (.ref 199) (.none) 0), #[]⟩
noncomputable def o132 (P : Params) : Obj := ⟨.type "list", none, .seq #[.int 14 499, .int 4 500, .int 0 501, .int 1 502, .int 4294967295 503, .int 24 504, .int 12 505, .int 1 506, .int 4294967295 507, .int 13 508, .int 7 509, .int 22 510, .int 45 511, .int 46 512, .int 8 513, .int 14 514, .int 0 515, .int 1 516, .int 1 517] 0, #[]⟩
noncomputable def o133 (P : Params) : Obj := ⟨.type "dict", none, .dict #[] 0, #[]⟩
noncomputable def o134 (P : Params) : Obj := ⟨.type "tuple", none, .seq #[.int 14 0, .int 4 0, .int 0 0, .int 1 0, .int 4294967295 0, .int 24 0, .int 12 0, .int 1 0, .int 4294967295 0, .int 13 0, .int 7 0, .int 22 0, .int 45 0, .int 46 0, .int 8 0, .int 14 0, .int 0 0, .int 1 0, .int 1 0] 0, #[]⟩
noncomputable def o135 (P : Params) : Obj := ⟨.type "re.Pattern", none, .fields #[vs "[\\w.-]+" 497, .int 32 519, .int 0 0, .none, .none, .ref 204, .int 0 0], #[]⟩
noncomputable def o136 (P : Params) : Obj := ⟨.type "tuple", none, .seq #[vs "name" 524, vs "match" 525] 0, #[]⟩
noncomputable def o137 (P : Params) : Obj := ⟨.none, none, .func (fn (tp 13) "validate_token" 0 [] (.none) (.none) (.none) (.none) none (.none) (.none) 0), #[]⟩
noncomputable def o138 (P : Params) : Obj := ⟨.type "code", none, .fields #[vs "validate_token" 521, vs "validate_token" 522, vs "/claim/cut.py" 523, .int 107 0, .int 1 0, .int 0 0, .int 0 0, .int 3 0, .ref 206, .bool true, .int 276 0, .ref 207, .none, .ref 208, .ref 209, .ref 210, .int 526 0, .int 107 0, vs "/claim/cut.py" 527], #[]⟩
noncomputable def o139 (P : Params) : Obj := ⟨.type "function", none, .func (fn (tp 13) "validate_token" 3 [] (.none) (.none) (.none) (vs "icalendar.parser.string" 463) none (.ref 211) (.none) 0), #[]⟩
noncomputable def o140 (P : Params) : Obj := ⟨.type "tuple", none, .seq #[.bool false] 0, #[]⟩
noncomputable def o141 (P : Params) : Obj := ⟨.none, none, .func (fn (tp 15) "param_value" 0 [] (.none) (.none) (.none) (.none) none (.none) (.none) 0), #[]⟩
noncomputable def o142 (P : Params) : Obj := ⟨.type "code", none, .fields #[vs "param_value" 531, vs "param_value" 532, vs "/claim/cut.py" 533, .int 113 0, .int 2 0, .int 0 0, .int 0 0, .int 3 0, .ref 214, .bool true, .int 276 0, .ref 215, .none, .none, .none, .ref 216, .int 534 0, .int 113 0, vs "/claim/cut.py" 535], #[]⟩
noncomputable def o143 (P : Params) : Obj := ⟨.type "function", none, .func (fn (tp 15) "param_value" 3 [] (.ref 213) (.none) (.none) (vs "icalendar.parser.parameter" 529) none (.ref 217) (.none) 0), #[]⟩
noncomputable def o144 (P : Params) : Obj := ⟨.type "list", none, .seq #[.int 14 540, .int 14 541, .int 4 542, .int 1 543, .int 1 544, .int 9 545, .int 4294966783 546, .int 201330692 547, .int 0 548, .int 2147483648 549, .int 0 550, .int 0 551, .int 0 552, .int 0 553, .int 0 554, .int 13 555, .int 11 556, .int 9 557, .int 4294966783 558, .int 201330692 559, .int 0 560, .int 2147483648 561, .int 0 562, .int 0 563, .int 0 564, .int 0 565, .int 0 566, .int 1 567] 0, #[]⟩
noncomputable def o145 (P : Params) : Obj := ⟨.type "tuple", none, .seq #[.int 14 0, .int 14 0, .int 4 0, .int 1 0, .int 1 0, .int 9 0, .int 4294966783 0, .int 201330692 0, .int 0 0, .int 2147483648 0, .int 0 0, .int 0 0, .int 0 0, .int 0 0, .int 0 0, .int 13 0, .int 11 0, .int 9 0, .int 4294966783 0, .int 201330692 0, .int 0 0, .int 2147483648 0, .int 0 0, .int 0 0, .int 0 0, .int 0 0, .int 0 0, .int 1 0] 0, #[]⟩
noncomputable def o146 (P : Params) : Obj := ⟨.type "re.Pattern", none, .fields #[.str ⟨#[91, 0, 45, 8, 10, 45, 31, 127, 34, 44, 58, 59, 93]⟩ 538, .int 32 569, .int 0 0, .none, .none, .ref 222, .int 0 0], #[]⟩
noncomputable def o147 (P : Params) : Obj := ⟨.type "list", none, .seq #[.int 14 574, .int 14 575, .int 4 576, .int 1 577, .int 1 578, .int 9 579, .int 4294966783 580, .int 4 581, .int 0 582, .int 2147483648 583, .int 0 584, .int 0 585, .int 0 586, .int 0 587, .int 0 588, .int 13 589, .int 11 590, .int 9 591, .int 4294966783 592, .int 4 593, .int 0 594, .int 2147483648 595, .int 0 596, .int 0 597, .int 0 598, .int 0 599, .int 0 600, .int 1 601] 0, #[]⟩
noncomputable def o148 (P : Params) : Obj := ⟨.type "tuple", none, .seq #[.int 14 0, .int 14 0, .int 4 0, .int 1 0, .int 1 0, .int 9 0, .int 4294966783 0, .int 4 0, .int 0 0, .int 2147483648 0, .int 0 0, .int 0 0, .int 0 0, .int 0 0, .int 0 0, .int 13 0, .int 11 0, .int 9 0, .int 4294966783 0, .int 4 0, .int 0 0, .int 2147483648 0, .int 0 0, .int 0 0, .int 0 0, .int 0 0, .int 0 0, .int 1 0] 0, #[]⟩
noncomputable def o149 (P : Params) : Obj := ⟨.type "re.Pattern", none, .fields #[.str ⟨#[91, 0, 45, 8, 10, 45, 31, 127, 34, 93]⟩ 572, .int 32 603, .int 0 0, .none, .none, .ref 227, .int 0 0], #[]⟩
noncomputable def o150 (P : Params) : Obj := ⟨.type "tuple", none, .seq #[.bool true] 0, #[]⟩
noncomputable def o151 (P : Params) : Obj := ⟨.type "tuple", none, .seq #[vs "value" 608, vs "quoted" 609] 0, #[]⟩
noncomputable def o152 (P : Params) : Obj := ⟨.type "tuple", none, .seq #[vs "validator" 610] 0, #[]⟩
noncomputable def o153 (P : Params) : Obj := ⟨.none, none, .func (fn (tp 18) "validate_param_value" 0 [] (.none) (.none) (.none) (.none) none (.none) (.none) 0), #[]⟩
noncomputable def o154 (P : Params) : Obj := ⟨.type "code", none, .fields #[vs "validate_param_value" 605, vs "validate_param_value" 606, vs "/claim/cut.py" 607, .int 121 0, .int 2 0, .int 0 0, .int 0 0, .int 3 0, .ref 230, .bool true, .int 276 0, .ref 231, .none, .ref 232, .ref 233, .ref 234, .int 611 0, .int 121 0, vs "/claim/cut.py" 612], #[]⟩
noncomputable def o155 (P : Params) : Obj := ⟨.type "function", none, .func (fn (tp 18) "validate_param_value" 3 [] (.ref 229) (.none) (.none) (vs "icalendar.parser.parameter" 529) none (.ref 235) (.none) 0), #[]⟩
noncomputable def o156 (P : Params) : Obj := ⟨.type "dict", none, .dict #[de P "__name__" 165 (vs "icalendar.parser.parameter" 529), de P "__doc__" 166 (.none), de P "__package__" 167 (.none), de P "__loader__" 168 (.builtin "__main__.__loader__#opaque"), de P "__spec__" 169 (.none), de P "__annotations__" 170 (.ref 6), de P "__builtins__" 171 (.ref 4), de P "__file__" 173 (vs "/claim/cut.py" 172), de P "__cached__" 174 (.none), de P "_sre" 275 (.ref 12), de P "_wall" 288 (.ref 38), de P "SEQUENCE_TYPES" 291 (.ref 39), de P "DEFAULT_ENCODING" 293 (vs "utf-8" 292), de P "to_unicode" 302 (.ref 47), de P "CaselessDict" 462 (.ref 174), de P "_foldline" 481 (.ref 186), de P "_escape_string" 488 (.ref 193), de P "_unescape_string" 495 (.ref 200), de P "NAME" 520 (.ref 205), de P "validate_token" 528 (.ref 212), de P "param_value" 536 (.ref 218), de P "UNSAFE_CHAR" 570 (.ref 223), de P "QUNSAFE_CHAR" 604 (.ref 228), de P "validate_param_value" 613 (.ref 236), de P "QUOTABLE" 809 (.ref 241), de P "dquote" 817 (.ref 249), de P "q_split" 836 (.ref 257), de P "q_join" 847 (.ref 265)] 28, #[]⟩
noncomputable def o157 (P : Params) : Obj := ⟨.none, none, .fields #[.int 2 0, .int 0 0, .ref 37, .int 8 0, .int 0 0, .ref 46, .int 16 0, .int 0 0, .ref 54, .int 79 0, .int 0 0, .ref 185, .int 102 0, .int 0 0, .ref 192, .int 104 0, .int 0 0, .ref 199, .int 107 0, .int 0 0, .ref 211, .int 113 0, .int 0 0, .ref 217, .int 121 0, .int 0 0, .ref 235, .int 126 0, .int 0 0, .ref 248, .int 131 0, .int 0 0, .ref 256, .int 150 0, .int 0 0, .ref 264], #[]⟩
noncomputable def o158 (P : Params) : Obj := ⟨.type "list", none, .seq #[.int 14 617, .int 95 618, .int 4 619, .int 1 620, .int 1 621, .int 10 622, .int 3 623, .int 16843008 624, .int 16843009 625, .int 16843009 626, .int 16843009 627, .int 16843009 628, .int 16843009 629, .int 16843009 630, .int 16843009 631, .int 16843010 632, .int 16843009 633, .int 16843009 634, .int 16843009 635, .int 16843009 636, .int 16843009 637, .int 16843009 638, .int 16843009 639, .int 16843009 640, .int 16843009 641, .int 16843009 642, .int 16843009 643, .int 16843009 644, .int 16843009 645, .int 16843009 646, .int 16843009 647, .int 16843009 648, .int 16843009 649, .int 16843009 650, .int 16843009 651, .int 16843009 652, .int 16843009 653, .int 16843009 654, .int 16843009 655, .int 16843009 656, .int 16843009 657, .int 16843009 658, .int 16843009 659, .int 16843009 660, .int 16843009 661, .int 16843009 662, .int 16843009 663, .int 16843009 664, .int 16843009 665, .int 16843009 666, .int 16843009 667, .int 16843009 668, .int 16843009 669, .int 16843009 670, .int 16843009 671, .int 16843009 672, .int 16843009 673, .int 16843009 674, .int 16843009 675, .int 16843009 676, .int 16843009 677, .int 16843009 678, .int 16843009 679, .int 16843009 680, .int 16843009 681, .int 16843009 682, .int 16843009 683, .int 16843009 684, .int 16843009 685, .int 16843009 686, .int 16843009 687, .int 0 688, .int 201330688 689, .int 0 690, .int 0 691, .int 0 692, .int 0 693, .int 0 694, .int 0 695, .int 0 696, .int 0 697, .int 0 698, .int 0 699, .int 0 700, .int 0 701, .int 0 702, .int 0 703, .int 33554432 704, .int 0 705, .int 0 706, .int 0 707, .int 0 708, .int 0 709, .int 0 710, .int 0 711, .int 0 712, .int 13 713, .int 92 714, .int 10 715, .int 3 716, .int 16843008 717, .int 16843009 718, .int 16843009 719, .int 16843009 720, .int 16843009 721, .int 16843009 722, .int 16843009 723, .int 16843009 724, .int 16843010 725, .int 16843009 726, .int 16843009 727, .int 16843009 728, .int 16843009 729, .int 16843009 730, .int 16843009 731, .int 16843009 732, .int 16843009 733, .int 16843009 734, .int 16843009 735, .int 16843009 736, .int 16843009 737, .int 16843009 738, .int 16843009 739, .int 16843009 740, .int 16843009 741, .int 16843009 742, .int 16843009 743, .int 16843009 744, .int 16843009 745, .int 16843009 746, .int 16843009 747, .int 16843009 748, .int 16843009 749, .int 16843009 750, .int 16843009 751, .int 16843009 752, .int 16843009 753, .int 16843009 754, .int 16843009 755, .int 16843009 756, .int 16843009 757, .int 16843009 758, .int 16843009 759, .int 16843009 760, .int 16843009 761, .int 16843009 762, .int 16843009 763, .int 16843009 764, .int 16843009 765, .int 16843009 766, .int 16843009 767, .int 16843009 768, .int 16843009 769, .int 16843009 770, .int 16843009 771, .int 16843009 772, .int 16843009 773, .int 16843009 774, .int 16843009 775, .int 16843009 776, .int 16843009 777, .int 16843009 778, .int 16843009 779, .int 16843009 780, .int 0 781, .int 201330688 782, .int 0 783, .int 0 784, .int 0 785, .int 0 786, .int 0 787, .int 0 788, .int 0 789, .int 0 790, .int 0 791, .int 0 792, .int 0 793, .int 0 794, .int 0 795, .int 0 796, .int 33554432 797, .int 0 798, .int 0 799, .int 0 800, .int 0 801, .int 0 802, .int 0 803, .int 0 804, .int 0 805, .int 1 806] 0, #[]⟩
noncomputable def o159 (P : Params) : Obj := ⟨.type "tuple", none, .seq #[.int 14 0, .int 95 0, .int 4 0, .int 1 0, .int 1 0, .int 10 0, .int 3 0, .int 16843008 0, .int 16843009 0, .int 16843009 0, .int 16843009 0, .int 16843009 0, .int 16843009 0, .int 16843009 0, .int 16843009 0, .int 16843010 0, .int 16843009 0, .int 16843009 0, .int 16843009 0, .int 16843009 0, .int 16843009 0, .int 16843009 0, .int 16843009 0, .int 16843009 0, .int 16843009 0, .int 16843009 0, .int 16843009 0, .int 16843009 0, .int 16843009 0, .int 16843009 0, .int 16843009 0, .int 16843009 0, .int 16843009 0, .int 16843009 0, .int 16843009 0, .int 16843009 0, .int 16843009 0, .int 16843009 0, .int 16843009 0, .int 16843009 0, .int 16843009 0, .int 16843009 0, .int 16843009 0, .int 16843009 0, .int 16843009 0, .int 16843009 0, .int 16843009 0, .int 16843009 0, .int 16843009 0, .int 16843009 0, .int 16843009 0, .int 16843009 0, .int 16843009 0, .int 16843009 0, .int 16843009 0, .int 16843009 0, .int 16843009 0, .int 16843009 0, .int 16843009 0, .int 16843009 0, .int 16843009 0, .int 16843009 0, .int 16843009 0, .int 16843009 0, .int 16843009 0, .int 16843009 0, .int 16843009 0, .int 16843009 0, .int 16843009 0, .int 16843009 0, .int 16843009 0, .int 0 0, .int 201330688 0, .int 0 0, .int 0 0, .int 0 0, .int 0 0, .int 0 0, .int 0 0, .int 0 0, .int 0 0, .int 0 0, .int 0 0, .int 0 0, .int 0 0, .int 0 0, .int 0 0, .int 33554432 0, .int 0 0, .int 0 0, .int 0 0, .int 0 0, .int 0 0, .int 0 0, .int 0 0, .int 0 0, .int 13 0, .int 92 0, .int 10 0, .int 3 0, .int 16843008 0, .int 16843009 0, .int 16843009 0, .int 16843009 0, .int 16843009 0, .int 16843009 0, .int 16843009 0, .int 16843009 0, .int 16843010 0, .int 16843009 0, .int 16843009 0, .int 16843009 0, .int 16843009 0, .int 16843009 0, .int 16843009 0, .int 16843009 0, .int 16843009 0, .int 16843009 0, .int 16843009 0, .int 16843009 0, .int 16843009 0, .int 16843009 0, .int 16843009 0, .int 16843009 0, .int 16843009 0, .int 16843009 0, .int 16843009 0, .int 16843009 0, .int 16843009 0, .int 16843009 0, .int 16843009 0, .int 16843009 0, .int 16843009 0, .int 16843009 0, .int 16843009 0, .int 16843009 0, .int 16843009 0, .int 16843009 0, .int 16843009 0, .int 16843009 0, .int 16843009 0, .int 16843009 0, .int 16843009 0, .int 16843009 0, .int 16843009 0, .int 16843009 0, .int 16843009 0, .int 16843009 0, .int 16843009 0, .int 16843009 0, .int 16843009 0, .int 16843009 0, .int 16843009 0, .int 16843009 0, .int 16843009 0, .int 16843009 0, .int 16843009 0, .int 16843009 0, .int 16843009 0, .int 16843009 0, .int 16843009 0, .int 16843009 0, .int 16843009 0, .int 16843009 0, .int 0 0, .int 201330688 0, .int 0 0, .int 0 0, .int 0 0, .int 0 0, .int 0 0, .int 0 0, .int 0 0, .int 0 0, .int 0 0, .int 0 0, .int 0 0, .int 0 0, .int 0 0, .int 0 0, .int 33554432 0, .int 0 0, .int 0 0, .int 0 0, .int 0 0, .int 0 0, .int 0 0, .int 0 0, .int 0 0, .int 1 0] 0, #[]⟩
noncomputable def o160 (P : Params) : Obj := ⟨.type "re.Pattern", none, .fields #[.str ⟨#[91, 44, 59, 58, 8217, 93]⟩ 615, .int 32 808, .int 0 0, .none, .none, .ref 240, .int 0 0], #[]⟩
noncomputable def o161 (P : Params) : Obj := ⟨.type "tuple", none, .seq #[vs "val" 813, vs "always_quote" 814] 0, #[]⟩
noncomputable def o162 (P : Params) : Obj := ⟨.none, none, .func (fn (tp 20) "dquote" 0 [] (.none) (.none) (.none) (.none) none (.none) (.none) 0), #[]⟩
noncomputable def o163 (P : Params) : Obj := ⟨.type "code", none, .fields #[vs "dquote" 810, vs "dquote" 811, vs "/claim/cut.py" 812, .int 126 0, .int 2 0, .int 0 0, .int 0 0, .int 3 0, .ref 243, .bool true, .int 276 0, .ref 244, .none, .ref 245, .ref 246, .ref 247, .int 815 0, .int 126 0, vs "/claim/cut.py" 816], #[]⟩
noncomputable def o164 (P : Params) : Obj := ⟨.type "function", none, .func (fn (tp 20) "dquote" 3 [] (.ref 242) (.none) (.none) (vs "icalendar.parser.parameter" 529) none (.ref 248) (.none) 0), #[]⟩
noncomputable def o165 (P : Params) : Obj := ⟨.type "tuple", none, .seq #[vs "," 818, .int (-1) 820] 0, #[]⟩
noncomputable def o166 (P : Params) : Obj := ⟨.type "tuple", none, .seq #[vs "st" 824, vs "sep" 825, vs "maxsplit" 826, vs "result" 827, vs "cursor" 828, vs "length" 829, vs "inquote" 830, vs "splits" 831, vs "i" 832, vs "ch" 833] 0, #[]⟩
noncomputable def o167 (P : Params) : Obj := ⟨.none, none, .func (fn (tp 21) "q_split" 0 [] (.none) (.none) (.none) (.none) none (.none) (.none) 0), #[]⟩
noncomputable def o168 (P : Params) : Obj := ⟨.type "code", none, .fields #[vs "q_split" 821, vs "q_split" 822, vs "/claim/cut.py" 823, .int 131 0, .int 3 0, .int 0 0, .int 0 0, .int 3 0, .ref 251, .bool true, .int 276 0, .ref 252, .none, .ref 253, .ref 254, .ref 255, .int 834 0, .int 131 0, vs "/claim/cut.py" 835], #[]⟩
noncomputable def o169 (P : Params) : Obj := ⟨.type "function", none, .func (fn (tp 21) "q_split" 3 [] (.ref 250) (.none) (.none) (vs "icalendar.parser.parameter" 529) none (.ref 256) (.none) 0), #[]⟩
noncomputable def o170 (P : Params) : Obj := ⟨.type "tuple", none, .seq #[vs "," 837, .bool false] 0, #[]⟩
noncomputable def o171 (P : Params) : Obj := ⟨.type "tuple", none, .seq #[vs "lst" 841, vs "sep" 842, vs "always_quote" 843] 0, #[]⟩
noncomputable def o172 (P : Params) : Obj := ⟨.type "tuple", none, .seq #[vs "always_quote" 844] 0, #[]⟩
noncomputable def o173 (P : Params) : Obj := ⟨.none, none, .func (fn (tp 22) "q_join" 0 [] (.none) (.none) (.none) (.none) none (.none) (.none) 0), #[]⟩
noncomputable def o174 (P : Params) : Obj := ⟨.type "code", none, .fields #[vs "q_join" 838, vs "q_join" 839, vs "/claim/cut.py" 840, .int 150 0, .int 3 0, .int 0 0, .int 0 0, .int 3 0, .ref 259, .bool true, .int 276 0, .ref 260, .none, .ref 261, .ref 262, .ref 263, .int 845 0, .int 150 0, vs "/claim/cut.py" 846], #[]⟩
noncomputable def o175 (P : Params) : Obj := ⟨.type "function", none, .func (fn (tp 22) "q_join" 3 [] (.ref 258) (.none) (.none) (vs "icalendar.parser.parameter" 529) none (.ref 264) (.none) 0), #[]⟩
noncomputable def o176 (P : Params) : Obj := ⟨.type "dict", none, .dict #[de P "__name__" 165 (vs "icalendar.parser.parameter" 529), de P "__doc__" 166 (.none), de P "__package__" 167 (.none), de P "__loader__" 168 (.builtin "__main__.__loader__#opaque"), de P "__spec__" 169 (.none), de P "__annotations__" 170 (.ref 6), de P "__builtins__" 171 (.ref 4), de P "__file__" 173 (vs "/claim/cut.py" 172), de P "__cached__" 174 (.none), de P "_sre" 275 (.ref 12), de P "_wall" 288 (.ref 38), de P "SEQUENCE_TYPES" 291 (.ref 39), de P "DEFAULT_ENCODING" 293 (vs "utf-8" 292), de P "to_unicode" 302 (.ref 47), de P "CaselessDict" 462 (.ref 174), de P "_foldline" 481 (.ref 186), de P "_escape_string" 488 (.ref 193), de P "_unescape_string" 495 (.ref 200), de P "NAME" 520 (.ref 205), de P "validate_token" 528 (.ref 212), de P "param_value" 536 (.ref 218), de P "UNSAFE_CHAR" 570 (.ref 223), de P "QUNSAFE_CHAR" 604 (.ref 228), de P "validate_param_value" 613 (.ref 236), de P "QUOTABLE" 809 (.ref 241), de P "dquote" 817 (.ref 249), de P "q_split" 836 (.ref 257), de P "q_join" 847 (.ref 265), de P "Parameters" 946 (.ref 318)] 29, #[]⟩
noncomputable def o177 (P : Params) : Obj := ⟨.none, none, .fields #[.int 2 0, .int 0 0, .ref 37, .int 8 0, .int 0 0, .ref 46, .int 16 0, .int 0 0, .ref 54, .int 79 0, .int 0 0, .ref 185, .int 102 0, .int 0 0, .ref 192, .int 104 0, .int 0 0, .ref 199, .int 107 0, .int 0 0, .ref 211, .int 113 0, .int 0 0, .ref 217, .int 121 0, .int 0 0, .ref 235, .int 126 0, .int 0 0, .ref 248, .int 131 0, .int 0 0, .ref 256, .int 150 0, .int 0 0, .ref 264, .int 152 0, .int 0 0, .ref 272], #[]⟩
noncomputable def o178 (P : Params) : Obj := ⟨.type "type", none, .cls ⟨"CaselessDict", [.type "dict"], [.ref 174, .type "dict", .type "object"], 173, "CaselessDict", true, [], [.ref 318], false, none, false⟩, #[some (.ref 48), none, some (vs "CaselessDict" 305), some (vs "CaselessDict" 313), some (.builtin "dict.__new__"), some (.bool true)]⟩
noncomputable def o179 (P : Params) : Obj := ⟨.type "tuple", none, .seq #[.ref 174] 0, #[]⟩
noncomputable def o180 (P : Params) : Obj := ⟨.type "dict", none, .dict #[de P "__module__" 855 (vs "icalendar.parser.parameter" 529), de P "__qualname__" 857 (vs "Parameters" 856), de P "__firstlineno__" 859 (.int 152 858), de P "__init__" 866 (.ref 279), de P "always_quoted" 876 (.ref 280), de P "quote_also" 880 (.ref 281), de P "params" 887 (.ref 288), de P "to_ical" 903 (.ref 296), de P "from_ical" 932 (.ref 306), de P "value" 941 (.ref 315), de P "__static_attributes__" 942 (.ref 316), de P "__classcell__" 943 (.ref 269)] 12, #[]⟩
noncomputable def o181 (P : Params) : Obj := ⟨.type "cell", none, .cell (some (.ref 318)), #[]⟩
noncomputable def o182 (P : Params) : Obj := ⟨.none, none, .fields #[.int 154 0, .int 4 0, .ref 278, .int 164 0, .int 4 0, .ref 287, .int 167 0, .int 4 0, .ref 295, .int 185 0, .int 4 0, .ref 303, .int 214 0, .int 4 0, .ref 313], #[]⟩
noncomputable def o183 (P : Params) : Obj := ⟨.type "code", none, .fields #[vs "Parameters" 850, vs "Parameters" 851, vs "/claim/cut.py" 852, .int 152 0, .int 0 0, .int 0 0, .int 0 0, .int 0 0, .ref 270, .bool false, .int 276 0, .ref 271, .none, .none, .none, .none, .int 853 0, .int 152 0, vs "/claim/cut.py" 854], #[]⟩
noncomputable def o184 (P : Params) : Obj := ⟨.type "frame", none, .plain, #[some (.ref 272), some (.ref 3), some (.ref 268), none, some (vs "icalendar.parser.parameter" 529), none, some (.ref 0)]⟩
noncomputable def o185 (P : Params) : Obj := ⟨.type "tuple", none, .seq #[.ref 269] 0, #[]⟩
noncomputable def o186 (P : Params) : Obj := ⟨.type "tuple", none, .seq #[vs "__class__" 863] 0, #[]⟩
noncomputable def o187 (P : Params) : Obj := ⟨.none, none, .func (fn (inn 23 0) "Parameters.__init__" 0 [] (.none) (.none) (.none) (.none) none (.none) (.none) 0), #[]⟩
noncomputable def o188 (P : Params) : Obj := ⟨.type "code", none, .fields #[vs "__init__" 860, vs "Parameters.__init__" 861, vs "/claim/cut.py" 862, .int 154 0, .int 1 0, .int 0 0, .int 0 0, .int 15 0, .ref 275, .bool true, .int 276 0, .ref 276, .none, .none, .none, .ref 277, .int 864 0, .int 154 0, vs "/claim/cut.py" 865], #[]⟩
noncomputable def o189 (P : Params) : Obj := ⟨.type "function", none, .func (fn (inn 23 0) "Parameters.__init__" 3 [("__class__", 269)] (.none) (.none) (.none) (vs "icalendar.parser.parameter" 529) none (.ref 278) (.ref 274) 0), #[]⟩
noncomputable def o190 (P : Params) : Obj := ⟨.type "tuple", none, .seq #[vs "ALTREP" 867, vs "DELEGATED-FROM" 868, vs "DELEGATED-TO" 869, vs "DIR" 870, vs "MEMBER" 871, vs "SENT-BY" 872, vs "X-ADDRESS" 873, vs "X-TITLE" 874, vs "LINKREL" 875] 0, #[]⟩
noncomputable def o191 (P : Params) : Obj := ⟨.type "dict", none, .dict #[de P "CN" 877 (vs " '" 878)] 1, #[]⟩
noncomputable def o192 (P : Params) : Obj := ⟨.type "tuple", none, .seq #[vs "self" 884] 0, #[]⟩
noncomputable def o193 (P : Params) : Obj := ⟨.none, none, .func (fn (inn 23 3) "Parameters.params" 0 [] (.none) (.none) (.none) (.none) none (.none) (.none) 0), #[]⟩
noncomputable def o194 (P : Params) : Obj := ⟨.type "code", none, .fields #[vs "params" 881, vs "Parameters.params" 882, vs "/claim/cut.py" 883, .int 164 0, .int 1 0, .int 0 0, .int 0 0, .int 3 0, .ref 282, .bool true, .int 276 0, .ref 283, .none, .ref 284, .ref 285, .ref 286, .int 885 0, .int 164 0, vs "/claim/cut.py" 886], #[]⟩
noncomputable def o195 (P : Params) : Obj := ⟨.type "function", none, .func (fn (inn 23 3) "Parameters.params" 3 [] (.none) (.none) (.none) (vs "icalendar.parser.parameter" 529) none (.ref 287) (.none) 0), #[]⟩
noncomputable def o196 (P : Params) : Obj := ⟨.type "tuple", none, .seq #[vs "self" 891, vs "sorted" 892, vs "result" 893, vs "items" 894, vs "key" 895, vs "upper_key" 896, vs "check_quoteable_characters" 897, vs "always_quote" 898, vs "quoted_value" 899] 0, #[]⟩
noncomputable def o197 (P : Params) : Obj := ⟨.type "tuple", none, .seq #[vs "value" 900] 0, #[]⟩
noncomputable def o198 (P : Params) : Obj := ⟨.none, none, .func (fn (inn 23 4) "Parameters.to_ical" 0 [] (.none) (.none) (.none) (.none) none (.none) (.none) 0), #[]⟩
noncomputable def o199 (P : Params) : Obj := ⟨.type "code", none, .fields #[vs "to_ical" 888, vs "Parameters.to_ical" 889, vs "/claim/cut.py" 890, .int 167 0, .int 2 0, .int 0 0, .int 0 0, .int 3 0, .ref 290, .bool true, .int 276 0, .ref 291, .none, .ref 292, .ref 293, .ref 294, .int 901 0, .int 167 0, vs "/claim/cut.py" 902], #[]⟩
noncomputable def o200 (P : Params) : Obj := ⟨.type "function", none, .func (fn (inn 23 4) "Parameters.to_ical" 3 [] (.ref 289) (.none) (.none) (vs "icalendar.parser.parameter" 529) none (.ref 295) (.none) 0), #[]⟩
noncomputable def o201 (P : Params) : Obj := ⟨.type "tuple", none, .seq #[vs "cls" 907, vs "st" 908, vs "strict" 909, vs "result" 910, vs "param" 911, vs "key" 912, vs "val" 913, vs "vals" 914, vs "v" 915, vs "v2" 916, vs "exc" 917] 0, #[]⟩
noncomputable def o202 (P : Params) : Obj := ⟨.none, none, .func (fn (inn 23 5) "Parameters.from_ical" 0 [] (.none) (.none) (.none) (.none) none (.none) (.none) 0), #[]⟩
noncomputable def o203 (P : Params) : Obj := ⟨.type "code", none, .fields #[vs "from_ical" 904, vs "Parameters.from_ical" 905, vs "/claim/cut.py" 906, .int 184 0, .int 3 0, .int 0 0, .int 0 0, .int 3 0, .ref 298, .bool true, .int 276 0, .ref 299, .none, .ref 300, .ref 301, .ref 302, .int 918 0, .int 184 0, vs "/claim/cut.py" 919], #[]⟩
noncomputable def o204 (P : Params) : Obj := ⟨.type "function", none, .func (fn (inn 23 5) "Parameters.from_ical" 3 [] (.ref 297) (.none) (.none) (vs "icalendar.parser.parameter" 529) (some 307) (.ref 303) (.none) 0), #[]⟩
noncomputable def o205 (P : Params) : Obj := ⟨.type "dict", none, .dict #[de P "__module__" 921 (vs "icalendar.parser.parameter" 529), de P "__name__" 924 (vs "from_ical" 923), de P "__qualname__" 927 (vs "Parameters.from_ical" 926), de P "__doc__" 929 (.none), de P "__annotations__" 931 (.ref 307)] 5, #[]⟩
noncomputable def o206 (P : Params) : Obj := ⟨.type "classmethod", (some 305), .fields #[.ref 304, .bool false], #[]⟩
noncomputable def o207 (P : Params) : Obj := ⟨.type "tuple", none, .seq #[vs "self" 936, vs "value" 937] 0, #[]⟩
noncomputable def o208 (P : Params) : Obj := ⟨.none, none, .func (fn (inn 23 6) "Parameters.value" 0 [] (.none) (.none) (.none) (.none) none (.none) (.none) 0), #[]⟩
noncomputable def o209 (P : Params) : Obj := ⟨.type "code", none, .fields #[vs "value" 933, vs "Parameters.value" 934, vs "/claim/cut.py" 935, .int 213 0, .int 1 0, .int 0 0, .int 0 0, .int 3 0, .ref 308, .bool true, .int 276 0, .ref 309, .none, .ref 310, .ref 311, .ref 312, .int 938 0, .int 213 0, vs "/claim/cut.py" 939], #[]⟩
noncomputable def o210 (P : Params) : Obj := ⟨.type "function", none, .func (fn (inn 23 6) "Parameters.value" 3 [] (.none) (.none) (.none) (vs "icalendar.parser.parameter" 529) none (.ref 313) (.none) 0), #[]⟩
noncomputable def o211 (P : Params) : Obj := ⟨.type "property", none, .fields #[.ref 314, .none, .none, .none, vs "value" 941, .bool false], #[]⟩
noncomputable def o212 (P : Params) : Obj := ⟨.type "dict", none, .dict #[de P "__module__" 855 (vs "icalendar.parser.parameter" 529), de P "__firstlineno__" 859 (.int 152 858), de P "__init__" 866 (.ref 279), de P "always_quoted" 876 (.ref 280), de P "quote_also" 880 (.ref 281), de P "params" 887 (.ref 288), de P "to_ical" 903 (.ref 296), de P "from_ical" 932 (.ref 306), de P "value" 941 (.ref 315), de P "__static_attributes__" 942 (.ref 316), de P "__doc__" 944 (.none)] 3, #[]⟩
noncomputable def o213 (P : Params) : Obj := ⟨.type "type", none, .cls ⟨"Parameters", [.ref 174], [.ref 318, .ref 174, .type "dict", .type "object"], 317, "Parameters", true, [], [], false, none, false⟩, #[some (.ref 266), none, some (vs "Parameters" 848), some (vs "Parameters" 856), some (.builtin "dict.__new__"), some (.bool true)]⟩
noncomputable def o214 (P : Params) : Obj := ⟨.type "super", none, .fields #[.ref 318, .ref 318, .ref 318], #[]⟩
noncomputable def o215 (P : Params) : Obj := ⟨.type "builtin_function_or_method", none, .fields #[.builtin "object.__init_subclass__", .ref 318], #[]⟩
noncomputable def o216 (P : Params) : Obj := ⟨.none, none, .dict #[de P "\x69mport.loaded._sre" 183 (.bool true), de P "class._frozen_importlib.BuiltinImporter" 185 (.ref 14), de P "watched.\x69mport" 206 (.ref 18), de P "class._frozen_importlib.ModuleSpec" 216 (.ref 22), de P "sys.modules.booked-epoch" 245 (.int 3 0), de P "\x69mport.later-laid._sre" 270 (.bool true), de P "watched.library" 272 (.ref 27), de P "watched.library-objects" 0 (.str ⟨#[12]⟩ 0), de P "watched.library-deep._sre" 273 (.str ⟨#[4, 0, 0, 11, 4, 0, 0, 11, 4, 0, 0, 3, 4, 0, 0, 11, 8, 4, 100, 105, 99, 116, 2]⟩ 0), de P "type.__subclasses__.str.0" 1187 (.int 443 0), de P "type.__subclasses__.str.n" 1188 (.int 1 0)] 11, #[]⟩
noncomputable def o217 (P : Params) : Obj := ⟨.type "dict", none, .dict #[de P "__name__" 165 (vs "law_be0022_01" 1241), de P "__doc__" 166 (.none), de P "__package__" 167 (.none), de P "__loader__" 168 (.builtin "__main__.__loader__#opaque"), de P "__spec__" 169 (.none), de P "__annotations__" 170 (.ref 6), de P "__builtins__" 171 (.ref 4), de P "__file__" 173 (vs "/claim/cut.py" 172), de P "__cached__" 174 (.none), de P "_sre" 275 (.ref 12), de P "_wall" 288 (.ref 38), de P "SEQUENCE_TYPES" 291 (.ref 39), de P "DEFAULT_ENCODING" 293 (vs "utf-8" 292), de P "to_unicode" 302 (.ref 47), de P "CaselessDict" 462 (.ref 174), de P "_foldline" 481 (.ref 186), de P "_escape_string" 488 (.ref 193), de P "_unescape_string" 495 (.ref 200), de P "NAME" 520 (.ref 205), de P "validate_token" 528 (.ref 212), de P "param_value" 536 (.ref 218), de P "UNSAFE_CHAR" 570 (.ref 223), de P "QUNSAFE_CHAR" 604 (.ref 228), de P "validate_param_value" 613 (.ref 236), de P "QUOTABLE" 809 (.ref 241), de P "dquote" 817 (.ref 249), de P "q_split" 836 (.ref 257), de P "q_join" 847 (.ref 265), de P "Parameters" 946 (.ref 318), de P "rfc_6868_unescape" 957 (.ref 327), de P "rfc_6868_escape" 967 (.ref 334), de P "unescape_list_or_string" 975 (.ref 339), de P "unescape_backslash" 984 (.ref 346), de P "UFOLD" 1019 (.ref 351), de P "NEWLINE" 1040 (.ref 356), de P "OWS" 1042 (.str ⟨#[32, 9]⟩ 1041), de P "_flush_pending" 1051 (.ref 363), de P "_strip_ows_around_delimiters" 1066 (.ref 371), de P "Contentline" 1190 (.ref 443), de P "Contentlines" 1240 (.ref 474), de P "_law_bag" 1251 (.ref 485), de P "_law_draw" 1260 (.ref 492), de P "_law_line" 1270 (.ref 499), de P "_law_unfolded" 1280 (.ref 506), de P "_law_lines" 1286 (.ref 511), de P "law" 1292 (.ref 516)] 46, #[]⟩
noncomputable def o218 (P : Params) : Obj := ⟨.none, none, .fields #[.int 2 0, .int 0 0, .ref 37, .int 8 0, .int 0 0, .ref 46, .int 16 0, .int 0 0, .ref 54, .int 79 0, .int 0 0, .ref 185, .int 102 0, .int 0 0, .ref 192, .int 104 0, .int 0 0, .ref 199, .int 107 0, .int 0 0, .ref 211, .int 113 0, .int 0 0, .ref 217, .int 121 0, .int 0 0, .ref 235, .int 126 0, .int 0 0, .ref 248, .int 131 0, .int 0 0, .ref 256, .int 150 0, .int 0 0, .ref 264, .int 152 0, .int 0 0, .ref 272, .int 219 0, .int 0 0, .ref 326, .int 228 0, .int 0 0, .ref 333, .int 235 0, .int 0 0, .ref 338, .int 239 0, .int 0 0, .ref 345, .int 254 0, .int 0 0, .ref 362, .int 260 0, .int 0 0, .ref 370, .int 305 0, .int 0 0, .ref 378, .int 370 0, .int 0 0, .ref 453, .int 386 0, .int 0 0, .ref 484, .int 391 0, .int 0 0, .ref 491, .int 395 0, .int 0 0, .ref 498, .int 401 0, .int 0 0, .ref 505, .int 414 0, .int 0 0, .ref 510, .int 427 0, .int 0 0, .ref 515], #[]⟩
noncomputable def o219 (P : Params) : Obj := ⟨.type "tuple", none, .seq #[vs "param_value" 950, vs "replacements" 951, vs "result" 952, vs "i" 953, vs "pair" 954] 0, #[]⟩
noncomputable def o220 (P : Params) : Obj := ⟨.none, none, .func (fn (tp 24) "rfc_6868_unescape" 0 [] (.none) (.none) (.none) (.none) none (.none) (.none) 0), #[]⟩
noncomputable def o221 (P : Params) : Obj := ⟨.type "code", none, .fields #[vs "rfc_6868_unescape" 947, vs "rfc_6868_unescape" 948, vs "/claim/cut.py" 949, .int 219 0, .int 1 0, .int 0 0, .int 0 0, .int 3 0, .ref 321, .bool true, .int 276 0, .ref 322, .none, .ref 323, .ref 324, .ref 325, .int 955 0, .int 219 0, vs "/claim/cut.py" 956], #[]⟩
noncomputable def o222 (P : Params) : Obj := ⟨.type "function", none, .func (fn (tp 24) "rfc_6868_unescape" 3 [] (.none) (.none) (.none) (vs "icalendar.parser.parameter" 529) none (.ref 326) (.none) 0), #[]⟩
noncomputable def o223 (P : Params) : Obj := ⟨.type "tuple", none, .seq #[vs "param_value" 961, vs "replacements" 962, vs "result" 963, vs "char" 964] 0, #[]⟩
noncomputable def o224 (P : Params) : Obj := ⟨.none, none, .func (fn (tp 25) "rfc_6868_escape" 0 [] (.none) (.none) (.none) (.none) none (.none) (.none) 0), #[]⟩
noncomputable def o225 (P : Params) : Obj := ⟨.type "code", none, .fields #[vs "rfc_6868_escape" 958, vs "rfc_6868_escape" 959, vs "/claim/cut.py" 960, .int 228 0, .int 1 0, .int 0 0, .int 0 0, .int 3 0, .ref 328, .bool true, .int 276 0, .ref 329, .none, .ref 330, .ref 331, .ref 332, .int 965 0, .int 228 0, vs "/claim/cut.py" 966], #[]⟩
noncomputable def o226 (P : Params) : Obj := ⟨.type "function", none, .func (fn (tp 25) "rfc_6868_escape" 3 [] (.none) (.none) (.none) (vs "icalendar.parser.parameter" 529) none (.ref 333) (.none) 0), #[]⟩
noncomputable def o227 (P : Params) : Obj := ⟨.none, none, .func (fn (tp 27) "unescape_list_or_string" 0 [] (.none) (.none) (.none) (.none) none (.none) (.none) 0), #[]⟩
noncomputable def o228 (P : Params) : Obj := ⟨.type "code", none, .fields #[vs "unescape_list_or_string" 970, vs "unescape_list_or_string" 971, vs "/claim/cut.py" 972, .int 235 0, .int 1 0, .int 0 0, .int 0 0, .int 3 0, .ref 335, .bool true, .int 276 0, .ref 336, .none, .none, .none, .ref 337, .int 973 0, .int 235 0, vs "/claim/cut.py" 974], #[]⟩
noncomputable def o229 (P : Params) : Obj := ⟨.type "function", none, .func (fn (tp 27) "unescape_list_or_string" 3 [] (.none) (.none) (.none) (vs "icalendar.parser.property" 968) none (.ref 338) (.none) 0), #[]⟩
noncomputable def o230 (P : Params) : Obj := ⟨.type "tuple", none, .seq #[vs "val" 979, vs "result" 980, vs "i" 981] 0, #[]⟩
noncomputable def o231 (P : Params) : Obj := ⟨.none, none, .func (fn (tp 28) "unescape_backslash" 0 [] (.none) (.none) (.none) (.none) none (.none) (.none) 0), #[]⟩
noncomputable def o232 (P : Params) : Obj := ⟨.type "code", none, .fields #[vs "unescape_backslash" 976, vs "unescape_backslash" 977, vs "/claim/cut.py" 978, .int 239 0, .int 1 0, .int 0 0, .int 0 0, .int 3 0, .ref 340, .bool true, .int 276 0, .ref 341, .none, .ref 342, .ref 343, .ref 344, .int 982 0, .int 239 0, vs "/claim/cut.py" 983], #[]⟩
noncomputable def o233 (P : Params) : Obj := ⟨.type "function", none, .func (fn (tp 28) "unescape_backslash" 3 [] (.none) (.none) (.none) (vs "icalendar.parser.property" 968) none (.ref 345) (.none) 0), #[]⟩
noncomputable def o234 (P : Params) : Obj := ⟨.type "list", none, .seq #[.int 14 990, .int 4 991, .int 0 992, .int 2 993, .int 4294967295 994, .int 23 995, .int 12 996, .int 1 997, .int 4294967295 998, .int 24 999, .int 6 1000, .int 0 1001, .int 1 1002, .int 16 1003, .int 13 1004, .int 1 1005, .int 16 1006, .int 10 1007, .int 18 1008, .int 13 1009, .int 6 1010, .int 16 1011, .int 32 1012, .int 16 1013, .int 9 1014, .int 0 1015, .int 1 1016] 0, #[]⟩
noncomputable def o235 (P : Params) : Obj := ⟨.type "tuple", none, .seq #[.int 14 0, .int 4 0, .int 0 0, .int 2 0, .int 4294967295 0, .int 23 0, .int 12 0, .int 1 0, .int 4294967295 0, .int 24 0, .int 6 0, .int 0 0, .int 1 0, .int 16 0, .int 13 0, .int 1 0, .int 16 0, .int 10 0, .int 18 0, .int 13 0, .int 6 0, .int 16 0, .int 32 0, .int 16 0, .int 9 0, .int 0 0, .int 1 0] 0, #[]⟩
noncomputable def o236 (P : Params) : Obj := ⟨.type "re.Pattern", none, .fields #[vs "(?:\\r?\\n)+[ \\t]" 988, .int 32 1018, .int 0 0, .none, .none, .ref 350, .int 0 0], #[]⟩
noncomputable def o237 (P : Params) : Obj := ⟨.type "list", none, .seq #[.int 14 1023, .int 4 1024, .int 0 1025, .int 1 1026, .int 2 1027, .int 24 1028, .int 6 1029, .int 0 1030, .int 1 1031, .int 16 1032, .int 13 1033, .int 1 1034, .int 16 1035, .int 10 1036, .int 1 1037] 0, #[]⟩
noncomputable def o238 (P : Params) : Obj := ⟨.type "tuple", none, .seq #[.int 14 0, .int 4 0, .int 0 0, .int 1 0, .int 2 0, .int 24 0, .int 6 0, .int 0 0, .int 1 0, .int 16 0, .int 13 0, .int 1 0, .int 16 0, .int 10 0, .int 1 0] 0, #[]⟩
noncomputable def o239 (P : Params) : Obj := ⟨.type "re.Pattern", none, .fields #[vs "\\r?\\n" 1021, .int 32 1039, .int 0 0, .none, .none, .ref 355, .int 0 0], #[]⟩
noncomputable def o240 (P : Params) : Obj := ⟨.type "tuple", none, .seq #[vs "out" 1046, vs "pending_ws" 1047, vs "last_was_delimiter" 1048] 0, #[]⟩
noncomputable def o241 (P : Params) : Obj := ⟨.none, none, .func (fn (tp 33) "_flush_pending" 0 [] (.none) (.none) (.none) (.none) none (.none) (.none) 0), #[]⟩
noncomputable def o242 (P : Params) : Obj := ⟨.type "code", none, .fields #[vs "_flush_pending" 1043, vs "_flush_pending" 1044, vs "/claim/cut.py" 1045, .int 254 0, .int 3 0, .int 0 0, .int 0 0, .int 3 0, .ref 357, .bool true, .int 276 0, .ref 358, .none, .ref 359, .ref 360, .ref 361, .int 1049 0, .int 254 0, vs "/claim/cut.py" 1050], #[]⟩
noncomputable def o243 (P : Params) : Obj := ⟨.type "function", none, .func (fn (tp 33) "_flush_pending" 3 [] (.none) (.none) (.none) (vs "icalendar.parser.content_line" 985) none (.ref 362) (.none) 0), #[]⟩
noncomputable def o244 (P : Params) : Obj := ⟨.type "tuple", none, .seq #[vs ";=" 1052] 0, #[]⟩
noncomputable def o245 (P : Params) : Obj := ⟨.type "tuple", none, .seq #[vs "st" 1056, vs "delimiters" 1057, vs "out" 1058, vs "pending_ws" 1059, vs "in_quotes" 1060, vs "escaped" 1061, vs "last_was_delimiter" 1062, vs "ch" 1063] 0, #[]⟩
noncomputable def o246 (P : Params) : Obj := ⟨.none, none, .func (fn (tp 34) "_strip_ows_around_delimiters" 0 [] (.none) (.none) (.none) (.none) none (.none) (.none) 0), #[]⟩
noncomputable def o247 (P : Params) : Obj := ⟨.type "code", none, .fields #[vs "_strip_ows_around_delimiters" 1053, vs "_strip_ows_around_delimiters" 1054, vs "/claim/cut.py" 1055, .int 260 0, .int 2 0, .int 0 0, .int 0 0, .int 3 0, .ref 365, .bool true, .int 276 0, .ref 366, .none, .ref 367, .ref 368, .ref 369, .int 1064 0, .int 260 0, vs "/claim/cut.py" 1065], #[]⟩
noncomputable def o248 (P : Params) : Obj := ⟨.type "function", none, .func (fn (tp 34) "_strip_ows_around_delimiters" 3 [] (.ref 364) (.none) (.none) (vs "icalendar.parser.content_line" 985) none (.ref 370) (.none) 0), #[]⟩
noncomputable def o249 (P : Params) : Obj := ⟨.type "tuple", none, .seq #[.type "str"] 0, #[]⟩
noncomputable def o250 (P : Params) : Obj := ⟨.type "dict", none, .dict #[de P "__module__" 1074 (vs "icalendar.parser.content_line" 985), de P "__qualname__" 1076 (vs "Contentline" 1075), de P "__firstlineno__" 1078 (.int 305 1077), de P "__slots__" 1080 (.ref 380), de P "__new__" 1092 (.ref 389), de P "from_parts" 1115 (.ref 399), de P "raw_parts" 1134 (.ref 407), de P "parts" 1144 (.ref 414), de P "value_separator_index" 1151 (.ref 421), de P "from_ical" 1172 (.ref 431), de P "to_ical" 1179 (.ref 439), de P "__static_attributes__" 1181 (.ref 440), de P "__classcell__" 1182 (.ref 375)] 13, #[]⟩
noncomputable def o251 (P : Params) : Obj := ⟨.type "cell", none, .cell (some (.ref 443)), #[]⟩
noncomputable def o252 (P : Params) : Obj := ⟨.none, none, .fields #[.int 308 0, .int 4 0, .ref 388, .int 316 0, .int 4 0, .ref 396, .int 319 0, .int 4 0, .ref 406, .int 356 0, .int 4 0, .ref 413, .int 360 0, .int 4 0, .ref 420, .int 364 0, .int 4 0, .ref 428, .int 368 0, .int 4 0, .ref 438], #[]⟩
noncomputable def o253 (P : Params) : Obj := ⟨.type "code", none, .fields #[vs "Contentline" 1069, vs "Contentline" 1070, vs "/claim/cut.py" 1071, .int 305 0, .int 0 0, .int 0 0, .int 0 0, .int 0 0, .ref 376, .bool false, .int 276 0, .ref 377, .none, .none, .none, .none, .int 1072 0, .int 305 0, vs "/claim/cut.py" 1073], #[]⟩
noncomputable def o254 (P : Params) : Obj := ⟨.type "frame", none, .plain, #[some (.ref 378), some (.ref 3), some (.ref 374), none, some (vs "icalendar.parser.content_line" 985), none, some (.ref 0)]⟩
noncomputable def o255 (P : Params) : Obj := ⟨.type "tuple", none, .seq #[vs "strict" 1079] 0, #[]⟩
noncomputable def o256 (P : Params) : Obj := ⟨.type "tuple", none, .seq #[.bool false, vs "utf-8" 292] 0, #[]⟩
noncomputable def o257 (P : Params) : Obj := ⟨.type "tuple", none, .seq #[.ref 375] 0, #[]⟩
noncomputable def o258 (P : Params) : Obj := ⟨.type "tuple", none, .seq #[vs "__class__" 1084] 0, #[]⟩
noncomputable def o259 (P : Params) : Obj := ⟨.type "tuple", none, .seq #[vs "cls" 1085, vs "value" 1086, vs "strict" 1087, vs "encoding" 1088, vs "self" 1089] 0, #[]⟩
noncomputable def o260 (P : Params) : Obj := ⟨.none, none, .func (fn (inn 35 1) "Contentline.__new__" 0 [] (.none) (.none) (.none) (.none) none (.none) (.none) 0), #[]⟩
noncomputable def o261 (P : Params) : Obj := ⟨.type "code", none, .fields #[vs "__new__" 1081, vs "Contentline.__new__" 1082, vs "/claim/cut.py" 1083, .int 308 0, .int 4 0, .int 0 0, .int 0 0, .int 3 0, .ref 383, .bool true, .int 276 0, .ref 384, .none, .ref 385, .ref 386, .ref 387, .int 1090 0, .int 308 0, vs "/claim/cut.py" 1091], #[]⟩
noncomputable def o262 (P : Params) : Obj := ⟨.type "function", none, .func (fn (inn 35 1) "Contentline.__new__" 3 [("__class__", 375)] (.ref 381) (.none) (.none) (vs "icalendar.parser.content_line" 985) none (.ref 388) (.ref 382) 0), #[]⟩
noncomputable def o263 (P : Params) : Obj := ⟨.type "tuple", none, .seq #[vs "cls" 1096, vs "name" 1097, vs "params" 1098, vs "values" 1099, vs "sorted" 1100] 0, #[]⟩
noncomputable def o264 (P : Params) : Obj := ⟨.none, none, .func (fn (inn 35 2) "Contentline.from_parts" 0 [] (.none) (.none) (.none) (.none) none (.none) (.none) 0), #[]⟩
noncomputable def o265 (P : Params) : Obj := ⟨.type "code", none, .fields #[vs "from_parts" 1093, vs "Contentline.from_parts" 1094, vs "/claim/cut.py" 1095, .int 315 0, .int 5 0, .int 0 0, .int 0 0, .int 3 0, .ref 391, .bool true, .int 276 0, .ref 392, .none, .ref 393, .ref 394, .ref 395, .int 1101 0, .int 315 0, vs "/claim/cut.py" 1102], #[]⟩
noncomputable def o266 (P : Params) : Obj := ⟨.type "function", none, .func (fn (inn 35 2) "Contentline.from_parts" 3 [] (.ref 390) (.none) (.none) (vs "icalendar.parser.content_line" 985) (some 400) (.ref 396) (.none) 0), #[]⟩
noncomputable def o267 (P : Params) : Obj := ⟨.type "dict", none, .dict #[de P "__module__" 1104 (vs "icalendar.parser.content_line" 985), de P "__name__" 1107 (vs "from_parts" 1106), de P "__qualname__" 1110 (vs "Contentline.from_parts" 1109), de P "__doc__" 1112 (.none), de P "__annotations__" 1114 (.ref 400)] 5, #[]⟩
noncomputable def o268 (P : Params) : Obj := ⟨.type "classmethod", (some 398), .fields #[.ref 397, .bool false], #[]⟩
noncomputable def o269 (P : Params) : Obj := ⟨.type "tuple", none, .seq #[vs "self" 1119, vs "name_split" 1120, vs "value_split" 1121, vs "in_quotes" 1122, vs "escaped" 1123, vs "i" 1124, vs "ch" 1125, vs "name" 1126, vs "raw_param_str" 1127, vs "param_str" 1128, vs "params" 1129, vs "values" 1130, vs "exc" 1131] 0, #[]⟩
noncomputable def o270 (P : Params) : Obj := ⟨.none, none, .func (fn (inn 35 3) "Contentline.raw_parts" 0 [] (.none) (.none) (.none) (.none) none (.none) (.none) 0), #[]⟩
noncomputable def o271 (P : Params) : Obj := ⟨.type "code", none, .fields #[vs "raw_parts" 1116, vs "Contentline.raw_parts" 1117, vs "/claim/cut.py" 1118, .int 319 0, .int 1 0, .int 0 0, .int 0 0, .int 3 0, .ref 401, .bool true, .int 276 0, .ref 402, .none, .ref 403, .ref 404, .ref 405, .int 1132 0, .int 319 0, vs "/claim/cut.py" 1133], #[]⟩
noncomputable def o272 (P : Params) : Obj := ⟨.type "function", none, .func (fn (inn 35 3) "Contentline.raw_parts" 3 [] (.none) (.none) (.none) (vs "icalendar.parser.content_line" 985) none (.ref 406) (.none) 0), #[]⟩
noncomputable def o273 (P : Params) : Obj := ⟨.type "tuple", none, .seq #[vs "self" 1138, vs "name" 1139, vs "params" 1140, vs "values" 1141] 0, #[]⟩
noncomputable def o274 (P : Params) : Obj := ⟨.none, none, .func (fn (inn 35 4) "Contentline.parts" 0 [] (.none) (.none) (.none) (.none) none (.none) (.none) 0), #[]⟩
noncomputable def o275 (P : Params) : Obj := ⟨.type "code", none, .fields #[vs "parts" 1135, vs "Contentline.parts" 1136, vs "/claim/cut.py" 1137, .int 356 0, .int 1 0, .int 0 0, .int 0 0, .int 3 0, .ref 408, .bool true, .int 276 0, .ref 409, .none, .ref 410, .ref 411, .ref 412, .int 1142 0, .int 356 0, vs "/claim/cut.py" 1143], #[]⟩
noncomputable def o276 (P : Params) : Obj := ⟨.type "function", none, .func (fn (inn 35 4) "Contentline.parts" 3 [] (.none) (.none) (.none) (vs "icalendar.parser.content_line" 985) none (.ref 413) (.none) 0), #[]⟩
noncomputable def o277 (P : Params) : Obj := ⟨.type "tuple", none, .seq #[vs "self" 1148] 0, #[]⟩
noncomputable def o278 (P : Params) : Obj := ⟨.none, none, .func (fn (inn 35 5) "Contentline.value_separator_index" 0 [] (.none) (.none) (.none) (.none) none (.none) (.none) 0), #[]⟩
noncomputable def o279 (P : Params) : Obj := ⟨.type "code", none, .fields #[vs "value_separator_index" 1145, vs "Contentline.value_separator_index" 1146, vs "/claim/cut.py" 1147, .int 360 0, .int 1 0, .int 0 0, .int 0 0, .int 3 0, .ref 415, .bool true, .int 276 0, .ref 416, .none, .ref 417, .ref 418, .ref 419, .int 1149 0, .int 360 0, vs "/claim/cut.py" 1150], #[]⟩
noncomputable def o280 (P : Params) : Obj := ⟨.type "function", none, .func (fn (inn 35 5) "Contentline.value_separator_index" 3 [] (.none) (.none) (.none) (vs "icalendar.parser.content_line" 985) none (.ref 420) (.none) 0), #[]⟩
noncomputable def o281 (P : Params) : Obj := ⟨.type "tuple", none, .seq #[vs "cls" 1155, vs "ical" 1156, vs "strict" 1157] 0, #[]⟩
noncomputable def o282 (P : Params) : Obj := ⟨.none, none, .func (fn (inn 35 6) "Contentline.from_ical" 0 [] (.none) (.none) (.none) (.none) none (.none) (.none) 0), #[]⟩
noncomputable def o283 (P : Params) : Obj := ⟨.type "code", none, .fields #[vs "from_ical" 1152, vs "Contentline.from_ical" 1153, vs "/claim/cut.py" 1154, .int 363 0, .int 3 0, .int 0 0, .int 0 0, .int 3 0, .ref 423, .bool true, .int 276 0, .ref 424, .none, .ref 425, .ref 426, .ref 427, .int 1158 0, .int 363 0, vs "/claim/cut.py" 1159], #[]⟩
noncomputable def o284 (P : Params) : Obj := ⟨.type "function", none, .func (fn (inn 35 6) "Contentline.from_ical" 3 [] (.ref 422) (.none) (.none) (vs "icalendar.parser.content_line" 985) (some 432) (.ref 428) (.none) 0), #[]⟩
noncomputable def o285 (P : Params) : Obj := ⟨.type "dict", none, .dict #[de P "__module__" 1161 (vs "icalendar.parser.content_line" 985), de P "__name__" 1164 (vs "from_ical" 1163), de P "__qualname__" 1167 (vs "Contentline.from_ical" 1166), de P "__doc__" 1169 (.none), de P "__annotations__" 1171 (.ref 432)] 5, #[]⟩
noncomputable def o286 (P : Params) : Obj := ⟨.type "classmethod", (some 430), .fields #[.ref 429, .bool false], #[]⟩
noncomputable def o287 (P : Params) : Obj := ⟨.type "tuple", none, .seq #[vs "self" 1176] 0, #[]⟩
noncomputable def o288 (P : Params) : Obj := ⟨.none, none, .func (fn (inn 35 7) "Contentline.to_ical" 0 [] (.none) (.none) (.none) (.none) none (.none) (.none) 0), #[]⟩
noncomputable def o289 (P : Params) : Obj := ⟨.type "code", none, .fields #[vs "to_ical" 1173, vs "Contentline.to_ical" 1174, vs "/claim/cut.py" 1175, .int 368 0, .int 1 0, .int 0 0, .int 0 0, .int 3 0, .ref 433, .bool true, .int 276 0, .ref 434, .none, .ref 435, .ref 436, .ref 437, .int 1177 0, .int 368 0, vs "/claim/cut.py" 1178], #[]⟩
noncomputable def o290 (P : Params) : Obj := ⟨.type "function", none, .func (fn (inn 35 7) "Contentline.to_ical" 3 [] (.none) (.none) (.none) (vs "icalendar.parser.content_line" 985) none (.ref 438) (.none) 0), #[]⟩
noncomputable def o291 (P : Params) : Obj := ⟨.type "tuple", none, .seq #[vs "strict" 1180] 0, #[]⟩
noncomputable def o292 (P : Params) : Obj := ⟨.type "list", none, .seq #[vs "strict" 1079] 1, #[]⟩
noncomputable def o293 (P : Params) : Obj := ⟨.type "dict", none, .dict #[de P "__module__" 1074 (vs "icalendar.parser.content_line" 985), de P "__firstlineno__" 1078 (.int 305 1077), de P "__slots__" 1080 (.ref 380), de P "__new__" 1092 (.ref 444), de P "from_parts" 1115 (.ref 399), de P "raw_parts" 1134 (.ref 407), de P "parts" 1144 (.ref 414), de P "value_separator_index" 1151 (.ref 421), de P "from_ical" 1172 (.ref 431), de P "to_ical" 1179 (.ref 439), de P "__static_attributes__" 1181 (.ref 440), de P "strict" 1185 (.ref 445), de P "__doc__" 1186 (.none)] 4, #[]⟩
noncomputable def o294 (P : Params) : Obj := ⟨.type "type", none, .cls ⟨"Contentline", [.type "str"], [.ref 443, .type "str", .type "object"], 442, "Contentline", false, ["strict"], [], false, none, false⟩, #[some (.ref 372), none, some (vs "Contentline" 1067), some (vs "Contentline" 1075), some (.none), some (.bool false)]⟩
noncomputable def o295 (P : Params) : Obj := ⟨.type "staticmethod", none, .fields #[.ref 389], #[]⟩
noncomputable def o296 (P : Params) : Obj := ⟨.type "member_descriptor", none, .fields #[vs "strict" 1184, .ref 443, .builtin "proto.slot", .builtin "proto.slot#set", .int 0 0], #[]⟩
noncomputable def o297 (P : Params) : Obj := ⟨.type "super", none, .fields #[.ref 443, .ref 443, .ref 443], #[]⟩
noncomputable def o298 (P : Params) : Obj := ⟨.type "builtin_function_or_method", none, .fields #[.builtin "object.__init_subclass__", .ref 443], #[]⟩
noncomputable def o299 (P : Params) : Obj := ⟨.type "tuple", none, .seq #[.type "list"] 0, #[]⟩
noncomputable def o300 (P : Params) : Obj := ⟨.type "dict", none, .dict #[de P "__module__" 1198 (vs "icalendar.parser.content_line" 985), de P "__qualname__" 1200 (vs "Contentlines" 1199), de P "__firstlineno__" 1202 (.int 370 1201), de P "to_ical" 1209 (.ref 461), de P "from_ical" 1232 (.ref 470), de P "__static_attributes__" 1233 (.ref 472)] 6, #[]⟩
noncomputable def o301 (P : Params) : Obj := ⟨.none, none, .fields #[.int 372 0, .int 4 0, .ref 460, .int 376 0, .int 4 0, .ref 467], #[]⟩
noncomputable def o302 (P : Params) : Obj := ⟨.type "code", none, .fields #[vs "Contentlines" 1193, vs "Contentlines" 1194, vs "/claim/cut.py" 1195, .int 370 0, .int 0 0, .int 0 0, .int 0 0, .int 0 0, .ref 451, .bool false, .int 276 0, .ref 452, .none, .none, .none, .none, .int 1196 0, .int 370 0, vs "/claim/cut.py" 1197], #[]⟩
noncomputable def o303 (P : Params) : Obj := ⟨.type "frame", none, .plain, #[some (.ref 453), some (.ref 3), some (.ref 450), none, some (vs "icalendar.parser.content_line" 985), none, some (.ref 0)]⟩
noncomputable def o304 (P : Params) : Obj := ⟨.type "tuple", none, .seq #[vs "self" 1206] 0, #[]⟩
noncomputable def o305 (P : Params) : Obj := ⟨.none, none, .func (fn (inn 36 0) "Contentlines.to_ical" 0 [] (.none) (.none) (.none) (.none) none (.none) (.none) 0), #[]⟩
noncomputable def o306 (P : Params) : Obj := ⟨.type "code", none, .fields #[vs "to_ical" 1203, vs "Contentlines.to_ical" 1204, vs "/claim/cut.py" 1205, .int 372 0, .int 1 0, .int 0 0, .int 0 0, .int 3 0, .ref 455, .bool true, .int 276 0, .ref 456, .none, .ref 457, .ref 458, .ref 459, .int 1207 0, .int 372 0, vs "/claim/cut.py" 1208], #[]⟩
noncomputable def o307 (P : Params) : Obj := ⟨.type "function", none, .func (fn (inn 36 0) "Contentlines.to_ical" 3 [] (.none) (.none) (.none) (vs "icalendar.parser.content_line" 985) none (.ref 460) (.none) 0), #[]⟩
noncomputable def o308 (P : Params) : Obj := ⟨.type "tuple", none, .seq #[vs "cls" 1213, vs "st" 1214, vs "unfolded" 1215, vs "lines" 1216, vs "e" 1217] 0, #[]⟩
noncomputable def o309 (P : Params) : Obj := ⟨.none, none, .func (fn (inn 36 1) "Contentlines.from_ical" 0 [] (.none) (.none) (.none) (.none) none (.none) (.none) 0), #[]⟩
noncomputable def o310 (P : Params) : Obj := ⟨.type "code", none, .fields #[vs "from_ical" 1210, vs "Contentlines.from_ical" 1211, vs "/claim/cut.py" 1212, .int 375 0, .int 2 0, .int 0 0, .int 0 0, .int 3 0, .ref 462, .bool true, .int 276 0, .ref 463, .none, .ref 464, .ref 465, .ref 466, .int 1218 0, .int 375 0, vs "/claim/cut.py" 1219], #[]⟩
noncomputable def o311 (P : Params) : Obj := ⟨.type "function", none, .func (fn (inn 36 1) "Contentlines.from_ical" 3 [] (.none) (.none) (.none) (vs "icalendar.parser.content_line" 985) (some 471) (.ref 467) (.none) 0), #[]⟩
noncomputable def o312 (P : Params) : Obj := ⟨.type "dict", none, .dict #[de P "__module__" 1221 (vs "icalendar.parser.content_line" 985), de P "__name__" 1224 (vs "from_ical" 1223), de P "__qualname__" 1227 (vs "Contentlines.from_ical" 1226), de P "__doc__" 1229 (.none), de P "__annotations__" 1231 (.ref 471)] 5, #[]⟩
noncomputable def o313 (P : Params) : Obj := ⟨.type "classmethod", (some 469), .fields #[.ref 468, .bool false], #[]⟩
noncomputable def o314 (P : Params) : Obj := ⟨.type "dict", none, .dict #[de P "__module__" 1198 (vs "icalendar.parser.content_line" 985), de P "__firstlineno__" 1202 (.int 370 1201), de P "to_ical" 1209 (.ref 461), de P "from_ical" 1232 (.ref 470), de P "__static_attributes__" 1233 (.ref 472), de P "__dict__" 1235 (.ref 475), de P "__weakref__" 1237 (.ref 476), de P "__doc__" 1238 (.none)] 4, #[]⟩
noncomputable def o315 (P : Params) : Obj := ⟨.type "type", none, .cls ⟨"Contentlines", [.type "list"], [.ref 474, .type "list", .type "object"], 473, "Contentlines", true, [], [], false, none, false⟩, #[some (.ref 448), none, some (vs "Contentlines" 1191), some (vs "Contentlines" 1199), some (.builtin "list.__new__"), some (.bool true)]⟩
noncomputable def o316 (P : Params) : Obj := ⟨.type "getset_descriptor", none, .fields #[vs "__dict__" 1234, .ref 474, .builtin "function.__dict__", .builtin "function.__dict__#set"], #[]⟩
noncomputable def o317 (P : Params) : Obj := ⟨.type "getset_descriptor", none, .fields #[vs "__weakref__" 1236, .ref 474, .builtin "ExceptionGroup.__weakref__", .none], #[]⟩
noncomputable def o318 (P : Params) : Obj := ⟨.type "super", none, .fields #[.ref 474, .ref 474, .ref 474], #[]⟩
noncomputable def o319 (P : Params) : Obj := ⟨.type "builtin_function_or_method", none, .fields #[.builtin "object.__init_subclass__", .ref 474], #[]⟩
noncomputable def o320 (P : Params) : Obj := ⟨.type "tuple", none, .seq #[vs "script" 1246, vs "n" 1247, vs "s" 1248] 0, #[]⟩
noncomputable def o321 (P : Params) : Obj := ⟨.none, none, .func (fn (tp 38) "_law_bag" 0 [] (.none) (.none) (.none) (.none) none (.none) (.none) 0), #[]⟩
noncomputable def o322 (P : Params) : Obj := ⟨.type "code", none, .fields #[vs "_law_bag" 1243, vs "_law_bag" 1244, vs "/claim/cut.py" 1245, .int 386 0, .int 1 0, .int 0 0, .int 0 0, .int 3 0, .ref 479, .bool true, .int 276 0, .ref 480, .none, .ref 481, .ref 482, .ref 483, .int 1249 0, .int 386 0, vs "/claim/cut.py" 1250], #[]⟩
noncomputable def o323 (P : Params) : Obj := ⟨.type "function", none, .func (fn (tp 38) "_law_bag" 3 [] (.none) (.none) (.none) (vs "law_be0022_01" 1241) none (.ref 484) (.none) 0), #[]⟩
noncomputable def o324 (P : Params) : Obj := ⟨.type "tuple", none, .seq #[vs "bag" 1255, vs "n" 1256, vs "told" 1257] 0, #[]⟩
noncomputable def o325 (P : Params) : Obj := ⟨.none, none, .func (fn (tp 39) "_law_draw" 0 [] (.none) (.none) (.none) (.none) none (.none) (.none) 0), #[]⟩
noncomputable def o326 (P : Params) : Obj := ⟨.type "code", none, .fields #[vs "_law_draw" 1252, vs "_law_draw" 1253, vs "/claim/cut.py" 1254, .int 391 0, .int 2 0, .int 0 0, .int 0 0, .int 3 0, .ref 486, .bool true, .int 276 0, .ref 487, .none, .ref 488, .ref 489, .ref 490, .int 1258 0, .int 391 0, vs "/claim/cut.py" 1259], #[]⟩
noncomputable def o327 (P : Params) : Obj := ⟨.type "function", none, .func (fn (tp 39) "_law_draw" 3 [] (.none) (.none) (.none) (vs "law_be0022_01" 1241) none (.ref 491) (.none) 0), #[]⟩
noncomputable def o328 (P : Params) : Obj := ⟨.type "tuple", none, .seq #[vs "bag" 1264, vs "signs" 1265, vs "told" 1266, vs "k" 1267] 0, #[]⟩
noncomputable def o329 (P : Params) : Obj := ⟨.none, none, .func (fn (tp 40) "_law_line" 0 [] (.none) (.none) (.none) (.none) none (.none) (.none) 0), #[]⟩
noncomputable def o330 (P : Params) : Obj := ⟨.type "code", none, .fields #[vs "_law_line" 1261, vs "_law_line" 1262, vs "/claim/cut.py" 1263, .int 395 0, .int 1 0, .int 0 0, .int 0 0, .int 3 0, .ref 493, .bool true, .int 276 0, .ref 494, .none, .ref 495, .ref 496, .ref 497, .int 1268 0, .int 395 0, vs "/claim/cut.py" 1269], #[]⟩
noncomputable def o331 (P : Params) : Obj := ⟨.type "function", none, .func (fn (tp 40) "_law_line" 3 [] (.none) (.none) (.none) (vs "law_be0022_01" 1241) none (.ref 498) (.none) 0), #[]⟩
noncomputable def o332 (P : Params) : Obj := ⟨.type "tuple", none, .seq #[vs "told" 1274, vs "found" 1275, vs "k" 1276, vs "end" 1277] 0, #[]⟩
noncomputable def o333 (P : Params) : Obj := ⟨.none, none, .func (fn (tp 41) "_law_unfolded" 0 [] (.none) (.none) (.none) (.none) none (.none) (.none) 0), #[]⟩
noncomputable def o334 (P : Params) : Obj := ⟨.type "code", none, .fields #[vs "_law_unfolded" 1271, vs "_law_unfolded" 1272, vs "/claim/cut.py" 1273, .int 401 0, .int 1 0, .int 0 0, .int 0 0, .int 3 0, .ref 500, .bool true, .int 276 0, .ref 501, .none, .ref 502, .ref 503, .ref 504, .int 1278 0, .int 401 0, vs "/claim/cut.py" 1279], #[]⟩
noncomputable def o335 (P : Params) : Obj := ⟨.type "function", none, .func (fn (tp 41) "_law_unfolded" 3 [] (.none) (.none) (.none) (vs "law_be0022_01" 1241) none (.ref 505) (.none) 0), #[]⟩
noncomputable def o336 (P : Params) : Obj := ⟨.none, none, .func (fn (tp 42) "_law_lines" 0 [] (.none) (.none) (.none) (.none) none (.none) (.none) 0), #[]⟩
noncomputable def o337 (P : Params) : Obj := ⟨.type "code", none, .fields #[vs "_law_lines" 1281, vs "_law_lines" 1282, vs "/claim/cut.py" 1283, .int 414 0, .int 1 0, .int 0 0, .int 0 0, .int 3 0, .ref 507, .bool true, .int 276 0, .ref 508, .none, .none, .none, .ref 509, .int 1284 0, .int 414 0, vs "/claim/cut.py" 1285], #[]⟩
noncomputable def o338 (P : Params) : Obj := ⟨.type "function", none, .func (fn (tp 42) "_law_lines" 3 [] (.none) (.none) (.none) (vs "law_be0022_01" 1241) none (.ref 510) (.none) 0), #[]⟩
noncomputable def o339 (P : Params) : Obj := ⟨.none, none, .func (fn (tp 43) "law" 0 [] (.none) (.none) (.none) (.none) none (.none) (.none) 0), #[]⟩
noncomputable def o340 (P : Params) : Obj := ⟨.type "code", none, .fields #[vs "law" 1287, vs "law" 1288, vs "/claim/cut.py" 1289, .int 427 0, .int 1 0, .int 0 0, .int 0 0, .int 3 0, .ref 512, .bool true, .int 276 0, .ref 513, .none, .none, .none, .ref 514, .int 1290 0, .int 427 0, vs "/claim/cut.py" 1291], #[]⟩
noncomputable def o341 (P : Params) : Obj := ⟨.type "function", none, .func (fn (tp 43) "law" 3 [] (.none) (.none) (.none) (vs "law_be0022_01" 1241) none (.ref 515) (.none) 0), #[]⟩
noncomputable def LE (P : Params) : List Obj := [boot_o_0 P, o0 P, o1 P, o2 P, boot_o_4 P, boot_o_5 P, boot_o_6 P, boot_o_7 P, boot_o_8 P, boot_o_9 P, boot_o_10 P, o3 P, o4 P, o5 P, o6 P, boot_o_7 P, o7 P, o8 P, o9 P, o10 P, o11 P, o12 P, o13 P, o14 P, o15 P, o16 P, o17 P, o18 P]
noncomputable def L0 (P : Params) : List Obj := [boot_o_0 P, o0 P, o1 P, o2 P, boot_o_4 P, boot_o_5 P, boot_o_6 P, boot_o_7 P, boot_o_8 P, boot_o_9 P, boot_o_10 P, o19 P, o4 P, o5 P, o6 P, boot_o_7 P, o7 P, o8 P, o9 P, o10 P, o11 P, o12 P, o13 P, o14 P, o15 P, o16 P, o17 P, o18 P]
noncomputable def La (P : Params) : List Obj := [boot_o_0 P, o0 P, o1 P, o2 P, boot_o_4 P, boot_o_5 P, boot_o_6 P, boot_o_7 P, boot_o_8 P, boot_o_9 P, boot_o_10 P, o19 P, o4 P, o5 P, o6 P, boot_o_7 P, o7 P, o8 P, o9 P, o10 P, o11 P, o12 P, o13 P, o14 P, o15 P, o16 P, o17 P, o18 P, boot_o_7 P, boot_o_8 P, o20 P, o21 P]
noncomputable def Lf (P : Params) : List Obj := [boot_o_0 P, o0 P, o216 P, o217 P, boot_o_4 P, boot_o_5 P, boot_o_6 P, boot_o_7 P, boot_o_8 P, boot_o_9 P, boot_o_10 P, o19 P, o4 P, o5 P, o6 P, boot_o_7 P, o7 P, o8 P, o9 P, o10 P, o11 P, o12 P, o13 P, o14 P, o15 P, o16 P, o17 P, o18 P, boot_o_7 P, o218 P, o20 P, o21 P, boot_o_7 P, boot_o_8 P, o24 P, boot_o_7 P, o25 P, o26 P, o27 P, o28 P, o29 P, boot_o_7 P, boot_o_8 P, o30 P, boot_o_7 P, o31 P, o32 P, o33 P, o34 P, o35 P, o36 P, o37 P, boot_o_7 P, o38 P, o39 P, o40 P, o41 P, o42 P, boot_o_8 P, o43 P, o44 P, o45 P, o46 P, o47 P, o41 P, o48 P, o49 P, o50 P, o44 P, o51 P, o52 P, o53 P, o41 P, o54 P, o49 P, o55 P, o44 P, o56 P, o57 P, o58 P, o41 P, o59 P, o49 P, o60 P, o44 P, o61 P, o62 P, o63 P, o41 P, o64 P, o49 P, o65 P, o44 P, o66 P, o67 P, o68 P, o69 P, o41 P, o70 P, o49 P, o71 P, o44 P, o72 P, o73 P, o74 P, o69 P, o41 P, o75 P, o49 P, o76 P, o44 P, o77 P, o78 P, o79 P, o69 P, o41 P, o80 P, o49 P, o81 P, o44 P, o82 P, o83 P, o84 P, o44 P, o49 P, o85 P, o44 P, o86 P, o87 P, o88 P, o44 P, o49 P, o89 P, o44 P, o90 P, o91 P, o92 P, o44 P, o49 P, o93 P, o44 P, o94 P, o95 P, o96 P, o44 P, o49 P, o97 P, o44 P, o98 P, o99 P, o100 P, o44 P, o49 P, o101 P, o44 P, o102 P, o103 P, o104 P, o44 P, o49 P, o105 P, o44 P, o106 P, o107 P, o108 P, o44 P, o49 P, o109 P, o44 P, o110 P, o111 P, o112 P, o44 P, o113 P, o178 P, o115 P, o116 P, o117 P, o118 P, o119 P, o44 P, o49 P, o120 P, o44 P, o121 P, o122 P, o123 P, o44 P, o49 P, o124 P, o44 P, o125 P, o126 P, o127 P, o44 P, o49 P, o128 P, o44 P, o129 P, o130 P, o131 P, o132 P, o133 P, o69 P, o134 P, o135 P, o44 P, o49 P, o136 P, o44 P, o137 P, o138 P, o139 P, o140 P, o44 P, o49 P, o141 P, o142 P, o143 P, o144 P, o133 P, o69 P, o145 P, o146 P, o147 P, o133 P, o69 P, o148 P, o149 P, o150 P, o44 P, o49 P, o151 P, o152 P, o153 P, o154 P, o155 P, o158 P, o133 P, o69 P, o159 P, o160 P, o140 P, o44 P, o49 P, o161 P, o44 P, o162 P, o163 P, o164 P, o165 P, o44 P, o49 P, o166 P, o44 P, o167 P, o168 P, o169 P, o170 P, o44 P, o49 P, o171 P, o172 P, o173 P, o174 P, o175 P, o179 P, o35 P, o180 P, o181 P, o44 P, o182 P, o183 P, o184 P, o185 P, o186 P, o49 P, o187 P, o188 P, o189 P, o190 P, o191 P, o44 P, o49 P, o192 P, o44 P, o193 P, o194 P, o195 P, o150 P, o44 P, o49 P, o196 P, o197 P, o198 P, o199 P, o200 P, o140 P, o44 P, o49 P, o201 P, o44 P, o202 P, o203 P, o204 P, o205 P, o206 P, o133 P, o44 P, o49 P, o207 P, o44 P, o208 P, o209 P, o210 P, o211 P, o44 P, o212 P, o213 P, o214 P, o215 P, o44 P, o49 P, o219 P, o44 P, o220 P, o221 P, o222 P, o44 P, o49 P, o223 P, o44 P, o224 P, o225 P, o226 P, o44 P, o49 P, o227 P, o228 P, o229 P, o44 P, o49 P, o230 P, o44 P, o231 P, o232 P, o233 P, o234 P, o133 P, o69 P, o235 P, o236 P, o237 P, o133 P, o69 P, o238 P, o239 P, o44 P, o49 P, o240 P, o44 P, o241 P, o242 P, o243 P, o244 P, o44 P, o49 P, o245 P, o44 P, o246 P, o247 P, o248 P, o249 P, o35 P, o250 P, o251 P, o44 P, o252 P, o253 P, o254 P, o255 P, o256 P, o257 P, o258 P, o49 P, o259 P, o44 P, o260 P, o261 P, o262 P, o150 P, o44 P, o49 P, o263 P, o44 P, o264 P, o265 P, o266 P, o267 P, o268 P, o133 P, o44 P, o49 P, o269 P, o44 P, o270 P, o271 P, o272 P, o44 P, o49 P, o273 P, o44 P, o274 P, o275 P, o276 P, o44 P, o49 P, o277 P, o44 P, o278 P, o279 P, o280 P, o140 P, o44 P, o49 P, o281 P, o44 P, o282 P, o283 P, o284 P, o285 P, o286 P, o133 P, o44 P, o49 P, o287 P, o44 P, o288 P, o289 P, o290 P, o291 P, o292 P, o293 P, o294 P, o295 P, o296 P, o297 P, o298 P, o299 P, o35 P, o300 P, o44 P, o301 P, o302 P, o303 P, o44 P, o49 P, o304 P, o44 P, o305 P, o306 P, o307 P, o44 P, o49 P, o308 P, o44 P, o309 P, o310 P, o311 P, o312 P, o313 P, o133 P, o44 P, o314 P, o315 P, o316 P, o317 P, o318 P, o319 P, o44 P, o49 P, o320 P, o44 P, o321 P, o322 P, o323 P, o44 P, o49 P, o324 P, o44 P, o325 P, o326 P, o327 P, o44 P, o49 P, o328 P, o44 P, o329 P, o330 P, o331 P, o44 P, o49 P, o332 P, o44 P, o333 P, o334 P, o335 P, o44 P, o49 P, o336 P, o337 P, o338 P, o44 P, o49 P, o339 P, o340 P, o341 P]
noncomputable def TE (P : Params) : BT := .node (boot_o_0 P) (.node (o0 P) (.node (o2 P) (.node (boot_o_7 P) (.node (boot_o_7 P) .nil .nil) (.node (o14 P) .nil .nil)) (.node (o3 P) (.node (o10 P) .nil .nil) (.node (o18 P) .nil .nil))) (.node (boot_o_5 P) (.node (boot_o_9 P) (.node (o8 P) .nil .nil) (.node (o16 P) .nil .nil)) (.node (o5 P) (.node (o12 P) .nil .nil) .nil))) (.node (o1 P) (.node (boot_o_4 P) (.node (boot_o_8 P) (.node (o7 P) .nil .nil) (.node (o15 P) .nil .nil)) (.node (o4 P) (.node (o11 P) .nil .nil) .nil)) (.node (boot_o_6 P) (.node (boot_o_10 P) (.node (o9 P) .nil .nil) (.node (o17 P) .nil .nil)) (.node (o6 P) (.node (o13 P) .nil .nil) .nil)))
noncomputable def Ta (P : Params) : BT := .node (boot_o_0 P) (.node (o0 P) (.node (o2 P) (.node (boot_o_7 P) (.node (boot_o_7 P) (.node (o21 P) .nil .nil) .nil) (.node (o14 P) .nil .nil)) (.node (o19 P) (.node (o10 P) .nil .nil) (.node (o18 P) .nil .nil))) (.node (boot_o_5 P) (.node (boot_o_9 P) (.node (o8 P) .nil .nil) (.node (o16 P) .nil .nil)) (.node (o5 P) (.node (o12 P) .nil .nil) (.node (boot_o_8 P) .nil .nil)))) (.node (o1 P) (.node (boot_o_4 P) (.node (boot_o_8 P) (.node (o7 P) .nil .nil) (.node (o15 P) .nil .nil)) (.node (o4 P) (.node (o11 P) .nil .nil) (.node (boot_o_7 P) .nil .nil))) (.node (boot_o_6 P) (.node (boot_o_10 P) (.node (o9 P) .nil .nil) (.node (o17 P) .nil .nil)) (.node (o6 P) (.node (o13 P) .nil .nil) (.node (o20 P) .nil .nil))))
noncomputable def Th (P : Params) : BT := .node (boot_o_0 P) (.node (o0 P) (.node (o22 P) (.node (boot_o_7 P) (.node (boot_o_7 P) (.node (o21 P) (.node (o47 P) (.node (o86 P) .nil .nil) (.node (o125 P) .nil .nil)) (.node (o68 P) (.node (o49 P) .nil .nil) (.node (o146 P) .nil .nil))) (.node (o33 P) (.node (o58 P) (.node (o96 P) .nil .nil) (.node (o49 P) .nil .nil)) (.node (o77 P) (.node (o115 P) .nil .nil) .nil))) (.node (o14 P) (.node (o28 P) (.node (o53 P) (.node (o91 P) .nil .nil) (.node (o130 P) .nil .nil)) (.node (o73 P) (.node (o109 P) .nil .nil) (.node (o49 P) .nil .nil))) (.node (o40 P) (.node (o63 P) (.node (o44 P) .nil .nil) (.node (o49 P) .nil .nil)) (.node (o44 P) (.node (o44 P) .nil .nil) .nil)))) (.node (o19 P) (.node (o10 P) (.node (boot_o_7 P) (.node (o50 P) (.node (o49 P) .nil .nil) (.node (o49 P) .nil .nil)) (.node (o49 P) (.node (o107 P) .nil .nil) (.node (o148 P) .nil .nil))) (.node (o37 P) (.node (o60 P) (.node (o44 P) .nil .nil) (.node (o138 P) .nil .nil)) (.node (o41 P) (.node (o119 P) .nil .nil) .nil))) (.node (o18 P) (.node (o30 P) (.node (o55 P) (.node (o93 P) .nil .nil) (.node (o69 P) .nil .nil)) (.node (o75 P) (.node (o112 P) .nil .nil) (.node (o154 P) .nil .nil))) (.node (o43 P) (.node (o65 P) (.node (o102 P) .nil .nil) (.node (o144 P) .nil .nil)) (.node (o44 P) (.node (o44 P) .nil .nil) .nil))))) (.node (boot_o_5 P) (.node (boot_o_9 P) (.node (o8 P) (.node (boot_o_8 P) (.node (o48 P) (.node (o88 P) .nil .nil) (.node (o127 P) .nil .nil)) (.node (o41 P) (.node (o44 P) .nil .nil) (.node (o133 P) .nil .nil))) (.node (o35 P) (.node (o59 P) (.node (o49 P) .nil .nil) (.node (o44 P) .nil .nil)) (.node (o79 P) (.node (o117 P) .nil .nil) .nil))) (.node (o16 P) (.node (boot_o_7 P) (.node (o54 P) (.node (o44 P) .nil .nil) (.node (o132 P) .nil .nil)) (.node (o69 P) (.node (o110 P) .nil .nil) (.node (o152 P) .nil .nil))) (.node (o42 P) (.node (o64 P) (.node (o101 P) .nil .nil) (.node (o142 P) .nil .nil)) (.node (o83 P) (.node (o122 P) .nil .nil) .nil)))) (.node (o5 P) (.node (o12 P) (.node (o26 P) (.node (o51 P) (.node (o44 P) .nil .nil) (.node (o44 P) .nil .nil)) (.node (o44 P) (.node (o44 P) .nil .nil) (.node (o150 P) .nil .nil))) (.node (o38 P) (.node (o61 P) (.node (o99 P) .nil .nil) (.node (o140 P) .nil .nil)) (.node (o49 P) (.node (o49 P) .nil .nil) .nil))) (.node (o23 P) (.node (o31 P) (.node (o56 P) (.node (o94 P) .nil .nil) (.node (o135 P) .nil .nil)) (.node (o76 P) (.node (o113 P) .nil .nil) .nil)) (.node (o45 P) (.node (o66 P) (.node (o104 P) .nil .nil) (.node (o69 P) .nil .nil)) (.node (o85 P) (.node (o124 P) .nil .nil) .nil)))))) (.node (o1 P) (.node (boot_o_4 P) (.node (boot_o_8 P) (.node (o7 P) (.node (boot_o_7 P) (.node (o41 P) (.node (o87 P) .nil .nil) (.node (o126 P) .nil .nil)) (.node (o69 P) (.node (o105 P) .nil .nil) (.node (o147 P) .nil .nil))) (.node (o34 P) (.node (o41 P) (.node (o44 P) .nil .nil) (.node (o136 P) .nil .nil)) (.node (o78 P) (.node (o116 P) .nil .nil) .nil))) (.node (o15 P) (.node (o29 P) (.node (o41 P) (.node (o92 P) .nil .nil) (.node (o131 P) .nil .nil)) (.node (o74 P) (.node (o44 P) .nil .nil) (.node (o151 P) .nil .nil))) (.node (o41 P) (.node (o41 P) (.node (o49 P) .nil .nil) (.node (o141 P) .nil .nil)) (.node (o82 P) (.node (o121 P) .nil .nil) .nil)))) (.node (o4 P) (.node (o11 P) (.node (o25 P) (.node (o44 P) (.node (o89 P) .nil .nil) (.node (o128 P) .nil .nil)) (.node (o71 P) (.node (o108 P) .nil .nil) (.node (o149 P) .nil .nil))) (.node (boot_o_7 P) (.node (o44 P) (.node (o98 P) .nil .nil) (.node (o139 P) .nil .nil)) (.node (o80 P) (.node (o44 P) .nil .nil) .nil))) (.node (boot_o_7 P) (.node (boot_o_7 P) (.node (o44 P) (.node (o44 P) .nil .nil) (.node (o134 P) .nil .nil)) (.node (o49 P) (.node (o44 P) .nil .nil) (.node (o155 P) .nil .nil))) (.node (o44 P) (.node (o44 P) (.node (o103 P) .nil .nil) (.node (o133 P) .nil .nil)) (.node (o49 P) (.node (o49 P) .nil .nil) .nil))))) (.node (boot_o_6 P) (.node (boot_o_10 P) (.node (o9 P) (.node (o24 P) (.node (o49 P) (.node (o44 P) .nil .nil) (.node (o44 P) .nil .nil)) (.node (o70 P) (.node (o106 P) .nil .nil) (.node (o69 P) .nil .nil))) (.node (o36 P) (.node (o49 P) (.node (o97 P) .nil .nil) (.node (o137 P) .nil .nil)) (.node (o69 P) (.node (o118 P) .nil .nil) .nil))) (.node (o17 P) (.node (boot_o_8 P) (.node (o49 P) (.node (o49 P) .nil .nil) (.node (o133 P) .nil .nil)) (.node (o41 P) (.node (o111 P) .nil .nil) (.node (o153 P) .nil .nil))) (.node (boot_o_8 P) (.node (o49 P) (.node (o44 P) .nil .nil) (.node (o143 P) .nil .nil)) (.node (o84 P) (.node (o123 P) .nil .nil) .nil)))) (.node (o6 P) (.node (o13 P) (.node (o27 P) (.node (o52 P) (.node (o90 P) .nil .nil) (.node (o129 P) .nil .nil)) (.node (o72 P) (.node (o49 P) .nil .nil) (.node (o44 P) .nil .nil))) (.node (o39 P) (.node (o62 P) (.node (o100 P) .nil .nil) (.node (o44 P) .nil .nil)) (.node (o81 P) (.node (o120 P) .nil .nil) .nil))) (.node (o20 P) (.node (o32 P) (.node (o57 P) (.node (o95 P) .nil .nil) (.node (o44 P) .nil .nil)) (.node (o44 P) (.node (o114 P) .nil .nil) .nil)) (.node (o46 P) (.node (o67 P) (.node (o44 P) .nil .nil) (.node (o145 P) .nil .nil)) (.node (o44 P) (.node (o44 P) .nil .nil) .nil))))))
noncomputable def Tc (P : Params) : BT := .node (boot_o_0 P) (.node (o0 P) (.node (o156 P) (.node (boot_o_7 P) (.node (boot_o_7 P) (.node (o21 P) (.node (o47 P) (.node (o86 P) (.node (o167 P) .nil .nil) .nil) (.node (o125 P) .nil .nil)) (.node (o68 P) (.node (o49 P) .nil .nil) (.node (o146 P) .nil .nil))) (.node (o33 P) (.node (o58 P) (.node (o96 P) .nil .nil) (.node (o49 P) .nil .nil)) (.node (o77 P) (.node (o115 P) .nil .nil) (.node (o69 P) .nil .nil)))) (.node (o14 P) (.node (o28 P) (.node (o53 P) (.node (o91 P) (.node (o173 P) .nil .nil) .nil) (.node (o130 P) .nil .nil)) (.node (o73 P) (.node (o109 P) .nil .nil) (.node (o49 P) .nil .nil))) (.node (o40 P) (.node (o63 P) (.node (o44 P) .nil .nil) (.node (o49 P) .nil .nil)) (.node (o44 P) (.node (o44 P) .nil .nil) (.node (o162 P) .nil .nil))))) (.node (o19 P) (.node (o10 P) (.node (boot_o_7 P) (.node (o50 P) (.node (o49 P) (.node (o44 P) .nil .nil) .nil) (.node (o49 P) .nil .nil)) (.node (o49 P) (.node (o107 P) .nil .nil) (.node (o148 P) .nil .nil))) (.node (o37 P) (.node (o60 P) (.node (o44 P) .nil .nil) (.node (o138 P) .nil .nil)) (.node (o41 P) (.node (o119 P) .nil .nil) (.node (o44 P) .nil .nil)))) (.node (o18 P) (.node (o30 P) (.node (o55 P) (.node (o93 P) .nil .nil) (.node (o69 P) .nil .nil)) (.node (o75 P) (.node (o112 P) .nil .nil) (.node (o154 P) .nil .nil))) (.node (o43 P) (.node (o65 P) (.node (o102 P) .nil .nil) (.node (o144 P) .nil .nil)) (.node (o44 P) (.node (o44 P) .nil .nil) (.node (o44 P) .nil .nil)))))) (.node (boot_o_5 P) (.node (boot_o_9 P) (.node (o8 P) (.node (boot_o_8 P) (.node (o48 P) (.node (o88 P) (.node (o169 P) .nil .nil) .nil) (.node (o127 P) .nil .nil)) (.node (o41 P) (.node (o44 P) .nil .nil) (.node (o133 P) .nil .nil))) (.node (o35 P) (.node (o59 P) (.node (o49 P) .nil .nil) (.node (o44 P) .nil .nil)) (.node (o79 P) (.node (o117 P) .nil .nil) (.node (o160 P) .nil .nil)))) (.node (o16 P) (.node (boot_o_7 P) (.node (o54 P) (.node (o44 P) (.node (o175 P) .nil .nil) .nil) (.node (o132 P) .nil .nil)) (.node (o69 P) (.node (o110 P) .nil .nil) (.node (o152 P) .nil .nil))) (.node (o42 P) (.node (o64 P) (.node (o101 P) .nil .nil) (.node (o142 P) .nil .nil)) (.node (o83 P) (.node (o122 P) .nil .nil) (.node (o164 P) .nil .nil))))) (.node (o5 P) (.node (o12 P) (.node (o26 P) (.node (o51 P) (.node (o44 P) (.node (o171 P) .nil .nil) .nil) (.node (o44 P) .nil .nil)) (.node (o44 P) (.node (o44 P) .nil .nil) (.node (o150 P) .nil .nil))) (.node (o38 P) (.node (o61 P) (.node (o99 P) .nil .nil) (.node (o140 P) .nil .nil)) (.node (o49 P) (.node (o49 P) .nil .nil) (.node (o161 P) .nil .nil)))) (.node (o157 P) (.node (o31 P) (.node (o56 P) (.node (o94 P) .nil .nil) (.node (o135 P) .nil .nil)) (.node (o76 P) (.node (o113 P) .nil .nil) (.node (o158 P) .nil .nil))) (.node (o45 P) (.node (o66 P) (.node (o104 P) .nil .nil) (.node (o69 P) .nil .nil)) (.node (o85 P) (.node (o124 P) .nil .nil) (.node (o166 P) .nil .nil))))))) (.node (o1 P) (.node (boot_o_4 P) (.node (boot_o_8 P) (.node (o7 P) (.node (boot_o_7 P) (.node (o41 P) (.node (o87 P) (.node (o168 P) .nil .nil) .nil) (.node (o126 P) .nil .nil)) (.node (o69 P) (.node (o105 P) .nil .nil) (.node (o147 P) .nil .nil))) (.node (o34 P) (.node (o41 P) (.node (o44 P) .nil .nil) (.node (o136 P) .nil .nil)) (.node (o78 P) (.node (o116 P) .nil .nil) (.node (o159 P) .nil .nil)))) (.node (o15 P) (.node (o29 P) (.node (o41 P) (.node (o92 P) (.node (o174 P) .nil .nil) .nil) (.node (o131 P) .nil .nil)) (.node (o74 P) (.node (o44 P) .nil .nil) (.node (o151 P) .nil .nil))) (.node (o41 P) (.node (o41 P) (.node (o49 P) .nil .nil) (.node (o141 P) .nil .nil)) (.node (o82 P) (.node (o121 P) .nil .nil) (.node (o163 P) .nil .nil))))) (.node (o4 P) (.node (o11 P) (.node (o25 P) (.node (o44 P) (.node (o89 P) (.node (o49 P) .nil .nil) .nil) (.node (o128 P) .nil .nil)) (.node (o71 P) (.node (o108 P) .nil .nil) (.node (o149 P) .nil .nil))) (.node (boot_o_7 P) (.node (o44 P) (.node (o98 P) .nil .nil) (.node (o139 P) .nil .nil)) (.node (o80 P) (.node (o44 P) .nil .nil) (.node (o49 P) .nil .nil)))) (.node (boot_o_7 P) (.node (boot_o_7 P) (.node (o44 P) (.node (o44 P) .nil .nil) (.node (o134 P) .nil .nil)) (.node (o49 P) (.node (o44 P) .nil .nil) (.node (o155 P) .nil .nil))) (.node (o44 P) (.node (o44 P) (.node (o103 P) .nil .nil) (.node (o133 P) .nil .nil)) (.node (o49 P) (.node (o49 P) .nil .nil) (.node (o49 P) .nil .nil)))))) (.node (boot_o_6 P) (.node (boot_o_10 P) (.node (o9 P) (.node (o24 P) (.node (o49 P) (.node (o44 P) (.node (o170 P) .nil .nil) .nil) (.node (o44 P) .nil .nil)) (.node (o70 P) (.node (o106 P) .nil .nil) (.node (o69 P) .nil .nil))) (.node (o36 P) (.node (o49 P) (.node (o97 P) .nil .nil) (.node (o137 P) .nil .nil)) (.node (o69 P) (.node (o118 P) .nil .nil) (.node (o140 P) .nil .nil)))) (.node (o17 P) (.node (boot_o_8 P) (.node (o49 P) (.node (o49 P) .nil .nil) (.node (o133 P) .nil .nil)) (.node (o41 P) (.node (o111 P) .nil .nil) (.node (o153 P) .nil .nil))) (.node (boot_o_8 P) (.node (o49 P) (.node (o44 P) .nil .nil) (.node (o143 P) .nil .nil)) (.node (o84 P) (.node (o123 P) .nil .nil) (.node (o165 P) .nil .nil))))) (.node (o6 P) (.node (o13 P) (.node (o27 P) (.node (o52 P) (.node (o90 P) (.node (o172 P) .nil .nil) .nil) (.node (o129 P) .nil .nil)) (.node (o72 P) (.node (o49 P) .nil .nil) (.node (o44 P) .nil .nil))) (.node (o39 P) (.node (o62 P) (.node (o100 P) .nil .nil) (.node (o44 P) .nil .nil)) (.node (o81 P) (.node (o120 P) .nil .nil) (.node (o44 P) .nil .nil)))) (.node (o20 P) (.node (o32 P) (.node (o57 P) (.node (o95 P) .nil .nil) (.node (o44 P) .nil .nil)) (.node (o44 P) (.node (o114 P) .nil .nil) (.node (o133 P) .nil .nil))) (.node (o46 P) (.node (o67 P) (.node (o44 P) .nil .nil) (.node (o145 P) .nil .nil)) (.node (o44 P) (.node (o44 P) .nil .nil) (.node (o44 P) .nil .nil)))))))
noncomputable def Td (P : Params) : BT := .node (boot_o_0 P) (.node (o0 P) (.node (o176 P) (.node (boot_o_7 P) (.node (boot_o_7 P) (.node (o21 P) (.node (o47 P) (.node (o86 P) (.node (o167 P) .nil .nil) .nil) (.node (o125 P) (.node (o214 P) .nil .nil) .nil)) (.node (o68 P) (.node (o49 P) (.node (o194 P) .nil .nil) .nil) (.node (o146 P) .nil .nil))) (.node (o33 P) (.node (o58 P) (.node (o96 P) (.node (o182 P) .nil .nil) .nil) (.node (o49 P) .nil .nil)) (.node (o77 P) (.node (o115 P) (.node (o203 P) .nil .nil) .nil) (.node (o69 P) .nil .nil)))) (.node (o14 P) (.node (o28 P) (.node (o53 P) (.node (o91 P) (.node (o173 P) .nil .nil) .nil) (.node (o130 P) .nil .nil)) (.node (o73 P) (.node (o109 P) (.node (o199 P) .nil .nil) .nil) (.node (o49 P) .nil .nil))) (.node (o40 P) (.node (o63 P) (.node (o44 P) (.node (o189 P) .nil .nil) .nil) (.node (o49 P) .nil .nil)) (.node (o44 P) (.node (o44 P) (.node (o44 P) .nil .nil) .nil) (.node (o162 P) .nil .nil))))) (.node (o19 P) (.node (o10 P) (.node (boot_o_7 P) (.node (o50 P) (.node (o49 P) (.node (o44 P) .nil .nil) .nil) (.node (o49 P) .nil .nil)) (.node (o49 P) (.node (o107 P) (.node (o49 P) .nil .nil) .nil) (.node (o148 P) .nil .nil))) (.node (o37 P) (.node (o60 P) (.node (o44 P) (.node (o186 P) .nil .nil) .nil) (.node (o138 P) .nil .nil)) (.node (o41 P) (.node (o119 P) (.node (o133 P) .nil .nil) .nil) (.node (o44 P) .nil .nil)))) (.node (o18 P) (.node (o30 P) (.node (o55 P) (.node (o93 P) (.node (o35 P) .nil .nil) .nil) (.node (o69 P) .nil .nil)) (.node (o75 P) (.node (o112 P) (.node (o49 P) .nil .nil) .nil) (.node (o154 P) .nil .nil))) (.node (o43 P) (.node (o65 P) (.node (o102 P) (.node (o49 P) .nil .nil) .nil) (.node (o144 P) .nil .nil)) (.node (o44 P) (.node (o44 P) (.node (o211 P) .nil .nil) .nil) (.node (o44 P) .nil .nil)))))) (.node (boot_o_5 P) (.node (boot_o_9 P) (.node (o8 P) (.node (boot_o_8 P) (.node (o48 P) (.node (o88 P) (.node (o169 P) .nil .nil) .nil) (.node (o127 P) .nil .nil)) (.node (o41 P) (.node (o44 P) (.node (o150 P) .nil .nil) .nil) (.node (o133 P) .nil .nil))) (.node (o35 P) (.node (o59 P) (.node (o49 P) (.node (o184 P) .nil .nil) .nil) (.node (o44 P) .nil .nil)) (.node (o79 P) (.node (o117 P) (.node (o205 P) .nil .nil) .nil) (.node (o160 P) .nil .nil)))) (.node (o16 P) (.node (boot_o_7 P) (.node (o54 P) (.node (o44 P) (.node (o175 P) .nil .nil) .nil) (.node (o132 P) .nil .nil)) (.node (o69 P) (.node (o110 P) (.node (o140 P) .nil .nil) .nil) (.node (o152 P) .nil .nil))) (.node (o42 P) (.node (o64 P) (.node (o101 P) (.node (o191 P) .nil .nil) .nil) (.node (o142 P) .nil .nil)) (.node (o83 P) (.node (o122 P) (.node (o209 P) .nil .nil) .nil) (.node (o164 P) .nil .nil))))) (.node (o5 P) (.node (o12 P) (.node (o26 P) (.node (o51 P) (.node (o44 P) (.node (o171 P) .nil .nil) .nil) (.node (o44 P) .nil .nil)) (.node (o44 P) (.node (o44 P) (.node (o197 P) .nil .nil) .nil) (.node (o150 P) .nil .nil))) (.node (o38 P) (.node (o61 P) (.node (o99 P) (.node (o187 P) .nil .nil) .nil) (.node (o140 P) .nil .nil)) (.node (o49 P) (.node (o49 P) (.node (o49 P) .nil .nil) .nil) (.node (o161 P) .nil .nil)))) (.node (o177 P) (.node (o31 P) (.node (o56 P) (.node (o94 P) (.node (o181 P) .nil .nil) .nil) (.node (o135 P) .nil .nil)) (.node (o76 P) (.node (o113 P) (.node (o44 P) .nil .nil) .nil) (.node (o158 P) .nil .nil))) (.node (o45 P) (.node (o66 P) (.node (o104 P) (.node (o44 P) .nil .nil) .nil) (.node (o69 P) .nil .nil)) (.node (o85 P) (.node (o124 P) (.node (o212 P) .nil .nil) .nil) (.node (o166 P) .nil .nil))))))) (.node (o1 P) (.node (boot_o_4 P) (.node (boot_o_8 P) (.node (o7 P) (.node (boot_o_7 P) (.node (o41 P) (.node (o87 P) (.node (o168 P) .nil .nil) .nil) (.node (o126 P) (.node (o215 P) .nil .nil) .nil)) (.node (o69 P) (.node (o105 P) (.node (o195 P) .nil .nil) .nil) (.node (o147 P) .nil .nil))) (.node (o34 P) (.node (o41 P) (.node (o44 P) (.node (o183 P) .nil .nil) .nil) (.node (o136 P) .nil .nil)) (.node (o78 P) (.node (o116 P) (.node (o204 P) .nil .nil) .nil) (.node (o159 P) .nil .nil)))) (.node (o15 P) (.node (o29 P) (.node (o41 P) (.node (o92 P) (.node (o174 P) .nil .nil) .nil) (.node (o131 P) .nil .nil)) (.node (o74 P) (.node (o44 P) (.node (o200 P) .nil .nil) .nil) (.node (o151 P) .nil .nil))) (.node (o41 P) (.node (o41 P) (.node (o49 P) (.node (o190 P) .nil .nil) .nil) (.node (o141 P) .nil .nil)) (.node (o82 P) (.node (o121 P) (.node (o208 P) .nil .nil) .nil) (.node (o163 P) .nil .nil))))) (.node (o4 P) (.node (o11 P) (.node (o25 P) (.node (o44 P) (.node (o89 P) (.node (o49 P) .nil .nil) .nil) (.node (o128 P) .nil .nil)) (.node (o71 P) (.node (o108 P) (.node (o196 P) .nil .nil) .nil) (.node (o149 P) .nil .nil))) (.node (boot_o_7 P) (.node (o44 P) (.node (o98 P) (.node (o49 P) .nil .nil) .nil) (.node (o139 P) .nil .nil)) (.node (o80 P) (.node (o44 P) (.node (o44 P) .nil .nil) .nil) (.node (o49 P) .nil .nil)))) (.node (boot_o_7 P) (.node (boot_o_7 P) (.node (o44 P) (.node (o44 P) (.node (o180 P) .nil .nil) .nil) (.node (o134 P) .nil .nil)) (.node (o49 P) (.node (o44 P) (.node (o201 P) .nil .nil) .nil) (.node (o155 P) .nil .nil))) (.node (o44 P) (.node (o44 P) (.node (o103 P) (.node (o192 P) .nil .nil) .nil) (.node (o133 P) .nil .nil)) (.node (o49 P) (.node (o49 P) (.node (o44 P) .nil .nil) .nil) (.node (o49 P) .nil .nil)))))) (.node (boot_o_6 P) (.node (boot_o_10 P) (.node (o9 P) (.node (o24 P) (.node (o49 P) (.node (o44 P) (.node (o170 P) .nil .nil) .nil) (.node (o44 P) .nil .nil)) (.node (o70 P) (.node (o106 P) (.node (o44 P) .nil .nil) .nil) (.node (o69 P) .nil .nil))) (.node (o36 P) (.node (o49 P) (.node (o97 P) (.node (o185 P) .nil .nil) .nil) (.node (o137 P) .nil .nil)) (.node (o69 P) (.node (o118 P) (.node (o206 P) .nil .nil) .nil) (.node (o140 P) .nil .nil)))) (.node (o17 P) (.node (boot_o_8 P) (.node (o49 P) (.node (o49 P) (.node (o179 P) .nil .nil) .nil) (.node (o133 P) .nil .nil)) (.node (o41 P) (.node (o111 P) (.node (o44 P) .nil .nil) .nil) (.node (o153 P) .nil .nil))) (.node (boot_o_8 P) (.node (o49 P) (.node (o44 P) (.node (o44 P) .nil .nil) .nil) (.node (o143 P) .nil .nil)) (.node (o84 P) (.node (o123 P) (.node (o210 P) .nil .nil) .nil) (.node (o165 P) .nil .nil))))) (.node (o6 P) (.node (o13 P) (.node (o27 P) (.node (o52 P) (.node (o90 P) (.node (o172 P) .nil .nil) .nil) (.node (o129 P) .nil .nil)) (.node (o72 P) (.node (o49 P) (.node (o198 P) .nil .nil) .nil) (.node (o44 P) .nil .nil))) (.node (o39 P) (.node (o62 P) (.node (o100 P) (.node (o188 P) .nil .nil) .nil) (.node (o44 P) .nil .nil)) (.node (o81 P) (.node (o120 P) (.node (o207 P) .nil .nil) .nil) (.node (o44 P) .nil .nil)))) (.node (o20 P) (.node (o32 P) (.node (o57 P) (.node (o95 P) (.node (o44 P) .nil .nil) .nil) (.node (o44 P) .nil .nil)) (.node (o44 P) (.node (o178 P) (.node (o202 P) .nil .nil) .nil) (.node (o133 P) .nil .nil))) (.node (o46 P) (.node (o67 P) (.node (o44 P) (.node (o193 P) .nil .nil) .nil) (.node (o145 P) .nil .nil)) (.node (o44 P) (.node (o44 P) (.node (o213 P) .nil .nil) .nil) (.node (o44 P) .nil .nil)))))))
noncomputable def Tf (P : Params) : BT := .node (boot_o_0 P) (.node (o0 P) (.node (o217 P) (.node (boot_o_7 P) (.node (boot_o_7 P) (.node (o21 P) (.node (o47 P) (.node (o86 P) (.node (o167 P) (.node (o338 P) .nil .nil) .nil) (.node (o258 P) .nil .nil)) (.node (o125 P) (.node (o214 P) .nil .nil) (.node (o298 P) .nil .nil))) (.node (o68 P) (.node (o49 P) (.node (o194 P) .nil .nil) (.node (o44 P) .nil .nil)) (.node (o146 P) (.node (o236 P) .nil .nil) (.node (o44 P) .nil .nil)))) (.node (o33 P) (.node (o58 P) (.node (o96 P) (.node (o182 P) .nil .nil) (.node (o268 P) .nil .nil)) (.node (o49 P) (.node (o44 P) .nil .nil) (.node (o49 P) .nil .nil))) (.node (o77 P) (.node (o115 P) (.node (o203 P) .nil .nil) (.node (o286 P) .nil .nil)) (.node (o69 P) (.node (o245 P) .nil .nil) (.node (o328 P) .nil .nil))))) (.node (o14 P) (.node (o28 P) (.node (o53 P) (.node (o91 P) (.node (o173 P) .nil .nil) (.node (o44 P) .nil .nil)) (.node (o130 P) (.node (o222 P) .nil .nil) (.node (o44 P) .nil .nil))) (.node (o73 P) (.node (o109 P) (.node (o199 P) .nil .nil) (.node (o44 P) .nil .nil)) (.node (o49 P) (.node (o240 P) .nil .nil) (.node (o49 P) .nil .nil)))) (.node (o40 P) (.node (o63 P) (.node (o44 P) (.node (o189 P) .nil .nil) (.node (o272 P) .nil .nil)) (.node (o49 P) (.node (o44 P) .nil .nil) (.node (o133 P) .nil .nil))) (.node (o44 P) (.node (o44 P) (.node (o44 P) .nil .nil) (.node (o290 P) .nil .nil)) (.node (o162 P) (.node (o251 P) .nil .nil) (.node (o44 P) .nil .nil)))))) (.node (o19 P) (.node (o10 P) (.node (boot_o_7 P) (.node (o50 P) (.node (o49 P) (.node (o44 P) (.node (o340 P) .nil .nil) .nil) (.node (o260 P) .nil .nil)) (.node (o49 P) (.node (o219 P) .nil .nil) (.node (o44 P) .nil .nil))) (.node (o49 P) (.node (o107 P) (.node (o49 P) .nil .nil) (.node (o278 P) .nil .nil)) (.node (o148 P) (.node (o238 P) .nil .nil) (.node (o321 P) .nil .nil)))) (.node (o37 P) (.node (o60 P) (.node (o44 P) (.node (o186 P) .nil .nil) (.node (o269 P) .nil .nil)) (.node (o138 P) (.node (o229 P) .nil .nil) (.node (o310 P) .nil .nil))) (.node (o41 P) (.node (o119 P) (.node (o133 P) .nil .nil) (.node (o287 P) .nil .nil)) (.node (o44 P) (.node (o248 P) .nil .nil) (.node (o331 P) .nil .nil))))) (.node (o18 P) (.node (o30 P) (.node (o55 P) (.node (o93 P) (.node (o35 P) .nil .nil) (.node (o264 P) .nil .nil)) (.node (o69 P) (.node (o44 P) .nil .nil) (.node (o305 P) .nil .nil))) (.node (o75 P) (.node (o112 P) (.node (o49 P) .nil .nil) (.node (o282 P) .nil .nil)) (.node (o154 P) (.node (o243 P) .nil .nil) (.node (o326 P) .nil .nil)))) (.node (o43 P) (.node (o65 P) (.node (o102 P) (.node (o49 P) .nil .nil) (.node (o44 P) .nil .nil)) (.node (o144 P) (.node (o234 P) .nil .nil) (.node (o316 P) .nil .nil))) (.node (o44 P) (.node (o44 P) (.node (o211 P) .nil .nil) (.node (o294 P) .nil .nil)) (.node (o44 P) (.node (o254 P) .nil .nil) (.node (o44 P) .nil .nil))))))) (.node (boot_o_5 P) (.node (boot_o_9 P) (.node (o8 P) (.node (boot_o_8 P) (.node (o48 P) (.node (o88 P) (.node (o169 P) (.node (o49 P) .nil .nil) .nil) (.node (o259 P) .nil .nil)) (.node (o127 P) (.node (o44 P) .nil .nil) (.node (o35 P) .nil .nil))) (.node (o41 P) (.node (o44 P) (.node (o150 P) .nil .nil) (.node (o277 P) .nil .nil)) (.node (o133 P) (.node (o133 P) .nil .nil) (.node (o320 P) .nil .nil)))) (.node (o35 P) (.node (o59 P) (.node (o49 P) (.node (o184 P) .nil .nil) (.node (o44 P) .nil .nil)) (.node (o44 P) (.node (o227 P) .nil .nil) (.node (o44 P) .nil .nil))) (.node (o79 P) (.node (o117 P) (.node (o205 P) .nil .nil) (.node (o44 P) .nil .nil)) (.node (o160 P) (.node (o246 P) .nil .nil) (.node (o329 P) .nil .nil))))) (.node (o16 P) (.node (boot_o_7 P) (.node (o54 P) (.node (o44 P) (.node (o175 P) .nil .nil) (.node (o263 P) .nil .nil)) (.node (o132 P) (.node (o49 P) .nil .nil) (.node (o304 P) .nil .nil))) (.node (o69 P) (.node (o110 P) (.node (o140 P) .nil .nil) (.node (o281 P) .nil .nil)) (.node (o152 P) (.node (o241 P) .nil .nil) (.node (o44 P) .nil .nil)))) (.node (o42 P) (.node (o64 P) (.node (o101 P) (.node (o191 P) .nil .nil) (.node (o49 P) .nil .nil)) (.node (o142 P) (.node (o232 P) .nil .nil) (.node (o314 P) .nil .nil))) (.node (o83 P) (.node (o122 P) (.node (o209 P) .nil .nil) (.node (o292 P) .nil .nil)) (.node (o164 P) (.node (o252 P) .nil .nil) (.node (o334 P) .nil .nil)))))) (.node (o5 P) (.node (o12 P) (.node (o26 P) (.node (o51 P) (.node (o44 P) (.node (o171 P) .nil .nil) (.node (o262 P) .nil .nil)) (.node (o44 P) (.node (o220 P) .nil .nil) (.node (o302 P) .nil .nil))) (.node (o44 P) (.node (o44 P) (.node (o197 P) .nil .nil) (.node (o280 P) .nil .nil)) (.node (o150 P) (.node (o44 P) .nil .nil) (.node (o323 P) .nil .nil)))) (.node (o38 P) (.node (o61 P) (.node (o99 P) (.node (o187 P) .nil .nil) (.node (o270 P) .nil .nil)) (.node (o140 P) (.node (o49 P) .nil .nil) (.node (o312 P) .nil .nil))) (.node (o49 P) (.node (o49 P) (.node (o49 P) .nil .nil) (.node (o288 P) .nil .nil)) (.node (o161 P) (.node (o35 P) .nil .nil) (.node (o49 P) .nil .nil))))) (.node (o218 P) (.node (o31 P) (.node (o56 P) (.node (o94 P) (.node (o181 P) .nil .nil) (.node (o266 P) .nil .nil)) (.node (o135 P) (.node (o225 P) .nil .nil) (.node (o307 P) .nil .nil))) (.node (o76 P) (.node (o113 P) (.node (o44 P) .nil .nil) (.node (o284 P) .nil .nil)) (.node (o158 P) (.node (o44 P) .nil .nil) (.node (o44 P) .nil .nil)))) (.node (o45 P) (.node (o66 P) (.node (o104 P) (.node (o44 P) .nil .nil) (.node (o275 P) .nil .nil)) (.node (o69 P) (.node (o69 P) .nil .nil) (.node (o318 P) .nil .nil))) (.node (o85 P) (.node (o124 P) (.node (o212 P) .nil .nil) (.node (o296 P) .nil .nil)) (.node (o166 P) (.node (o256 P) .nil .nil) (.node (o336 P) .nil .nil)))))))) (.node (o216 P) (.node (boot_o_4 P) (.node (boot_o_8 P) (.node (o7 P) (.node (boot_o_7 P) (.node (o41 P) (.node (o87 P) (.node (o168 P) (.node (o44 P) .nil .nil) .nil) (.node (o49 P) .nil .nil)) (.node (o126 P) (.node (o215 P) .nil .nil) (.node (o299 P) .nil .nil))) (.node (o69 P) (.node (o105 P) (.node (o195 P) .nil .nil) (.node (o49 P) .nil .nil)) (.node (o147 P) (.node (o237 P) .nil .nil) (.node (o49 P) .nil .nil)))) (.node (o34 P) (.node (o41 P) (.node (o44 P) (.node (o183 P) .nil .nil) (.node (o133 P) .nil .nil)) (.node (o136 P) (.node (o49 P) .nil .nil) (.node (o308 P) .nil .nil))) (.node (o78 P) (.node (o116 P) (.node (o204 P) .nil .nil) (.node (o133 P) .nil .nil)) (.node (o159 P) (.node (o44 P) .nil .nil) (.node (o44 P) .nil .nil))))) (.node (o15 P) (.node (o29 P) (.node (o41 P) (.node (o92 P) (.node (o174 P) .nil .nil) (.node (o49 P) .nil .nil)) (.node (o131 P) (.node (o44 P) .nil .nil) (.node (o49 P) .nil .nil))) (.node (o74 P) (.node (o44 P) (.node (o200 P) .nil .nil) (.node (o49 P) .nil .nil)) (.node (o151 P) (.node (o44 P) .nil .nil) (.node (o324 P) .nil .nil)))) (.node (o41 P) (.node (o41 P) (.node (o49 P) (.node (o190 P) .nil .nil) (.node (o44 P) .nil .nil)) (.node (o141 P) (.node (o231 P) .nil .nil) (.node (o44 P) .nil .nil))) (.node (o82 P) (.node (o121 P) (.node (o208 P) .nil .nil) (.node (o291 P) .nil .nil)) (.node (o163 P) (.node (o44 P) .nil .nil) (.node (o333 P) .nil .nil)))))) (.node (o4 P) (.node (o11 P) (.node (o25 P) (.node (o44 P) (.node (o89 P) (.node (o49 P) (.node (o341 P) .nil .nil) .nil) (.node (o261 P) .nil .nil)) (.node (o128 P) (.node (o44 P) .nil .nil) (.node (o301 P) .nil .nil))) (.node (o71 P) (.node (o108 P) (.node (o196 P) .nil .nil) (.node (o279 P) .nil .nil)) (.node (o149 P) (.node (o239 P) .nil .nil) (.node (o322 P) .nil .nil)))) (.node (boot_o_7 P) (.node (o44 P) (.node (o98 P) (.node (o49 P) .nil .nil) (.node (o44 P) .nil .nil)) (.node (o139 P) (.node (o44 P) .nil .nil) (.node (o311 P) .nil .nil))) (.node (o80 P) (.node (o44 P) (.node (o44 P) .nil .nil) (.node (o44 P) .nil .nil)) (.node (o49 P) (.node (o249 P) .nil .nil) (.node (o44 P) .nil .nil))))) (.node (boot_o_7 P) (.node (boot_o_7 P) (.node (o44 P) (.node (o44 P) (.node (o180 P) .nil .nil) (.node (o265 P) .nil .nil)) (.node (o134 P) (.node (o224 P) .nil .nil) (.node (o306 P) .nil .nil))) (.node (o49 P) (.node (o44 P) (.node (o201 P) .nil .nil) (.node (o283 P) .nil .nil)) (.node (o155 P) (.node (o244 P) .nil .nil) (.node (o327 P) .nil .nil)))) (.node (o44 P) (.node (o44 P) (.node (o103 P) (.node (o192 P) .nil .nil) (.node (o274 P) .nil .nil)) (.node (o133 P) (.node (o133 P) .nil .nil) (.node (o317 P) .nil .nil))) (.node (o49 P) (.node (o49 P) (.node (o44 P) .nil .nil) (.node (o295 P) .nil .nil)) (.node (o49 P) (.node (o255 P) .nil .nil) (.node (o49 P) .nil .nil))))))) (.node (boot_o_6 P) (.node (boot_o_10 P) (.node (o9 P) (.node (o24 P) (.node (o49 P) (.node (o44 P) (.node (o170 P) (.node (o339 P) .nil .nil) .nil) (.node (o44 P) .nil .nil)) (.node (o44 P) (.node (o49 P) .nil .nil) (.node (o300 P) .nil .nil))) (.node (o70 P) (.node (o106 P) (.node (o44 P) .nil .nil) (.node (o44 P) .nil .nil)) (.node (o69 P) (.node (o69 P) .nil .nil) (.node (o44 P) .nil .nil)))) (.node (o36 P) (.node (o49 P) (.node (o97 P) (.node (o185 P) .nil .nil) (.node (o49 P) .nil .nil)) (.node (o137 P) (.node (o228 P) .nil .nil) (.node (o309 P) .nil .nil))) (.node (o69 P) (.node (o118 P) (.node (o206 P) .nil .nil) (.node (o49 P) .nil .nil)) (.node (o140 P) (.node (o247 P) .nil .nil) (.node (o330 P) .nil .nil))))) (.node (o17 P) (.node (boot_o_8 P) (.node (o49 P) (.node (o49 P) (.node (o179 P) .nil .nil) (.node (o44 P) .nil .nil)) (.node (o133 P) (.node (o223 P) .nil .nil) (.node (o44 P) .nil .nil))) (.node (o41 P) (.node (o111 P) (.node (o44 P) .nil .nil) (.node (o44 P) .nil .nil)) (.node (o153 P) (.node (o242 P) .nil .nil) (.node (o325 P) .nil .nil)))) (.node (boot_o_8 P) (.node (o49 P) (.node (o44 P) (.node (o44 P) .nil .nil) (.node (o273 P) .nil .nil)) (.node (o143 P) (.node (o233 P) .nil .nil) (.node (o315 P) .nil .nil))) (.node (o84 P) (.node (o123 P) (.node (o210 P) .nil .nil) (.node (o293 P) .nil .nil)) (.node (o165 P) (.node (o253 P) .nil .nil) (.node (o335 P) .nil .nil)))))) (.node (o6 P) (.node (o13 P) (.node (o27 P) (.node (o52 P) (.node (o90 P) (.node (o172 P) .nil .nil) (.node (o150 P) .nil .nil)) (.node (o129 P) (.node (o221 P) .nil .nil) (.node (o303 P) .nil .nil))) (.node (o72 P) (.node (o49 P) (.node (o198 P) .nil .nil) (.node (o140 P) .nil .nil)) (.node (o44 P) (.node (o49 P) .nil .nil) (.node (o44 P) .nil .nil)))) (.node (o39 P) (.node (o62 P) (.node (o100 P) (.node (o188 P) .nil .nil) (.node (o271 P) .nil .nil)) (.node (o44 P) (.node (o230 P) .nil .nil) (.node (o313 P) .nil .nil))) (.node (o81 P) (.node (o120 P) (.node (o207 P) .nil .nil) (.node (o289 P) .nil .nil)) (.node (o44 P) (.node (o250 P) .nil .nil) (.node (o332 P) .nil .nil))))) (.node (o20 P) (.node (o32 P) (.node (o57 P) (.node (o95 P) (.node (o44 P) .nil .nil) (.node (o267 P) .nil .nil)) (.node (o44 P) (.node (o226 P) .nil .nil) (.node (o44 P) .nil .nil))) (.node (o44 P) (.node (o178 P) (.node (o202 P) .nil .nil) (.node (o285 P) .nil .nil)) (.node (o133 P) (.node (o49 P) .nil .nil) (.node (o49 P) .nil .nil)))) (.node (o46 P) (.node (o67 P) (.node (o44 P) (.node (o193 P) .nil .nil) (.node (o276 P) .nil .nil)) (.node (o145 P) (.node (o235 P) .nil .nil) (.node (o319 P) .nil .nil))) (.node (o44 P) (.node (o44 P) (.node (o213 P) .nil .nil) (.node (o297 P) .nil .nil)) (.node (o44 P) (.node (o257 P) .nil .nil) (.node (o337 P) .nil .nil))))))))
noncomputable abbrev envE : Env := { scope := PW.main.scope, locals := mainNs, globals := mainNs, cells := [], code := .ref 30, frame := some 31 }
noncomputable abbrev bE : List Stmt := behindTheImports PW
noncomputable abbrev cE : Code := .body bE envE
noncomputable abbrev annE : Option Value := some (.ref 6)
noncomputable abbrev ps (a b c d : Nat) : Pos := ⟨a, b, c, d⟩
noncomputable abbrev B0 : List Frame := [topFrame (ps 0 0 0 0)]
noncomputable def sts (a n : Nat) : List Stmt := (bE.drop a).take n
noncomputable abbrev hp (L : Params → List Obj) (P : Params) : Heap := ⟨(L P).toArray, {}⟩
noncomputable abbrev SL (L : Params → List Obj) (k : Nat) (P : Params) (os : OsState) : Shared := ⟨hp L P, #[], {}, k, os⟩
noncomputable abbrev ST (T : Params → BT) (n k : Nat) (P : Params) (os : OsState) : SharedT := ⟨T P, n, {}, #[], {}, k, os⟩
theorem abs_st {T : Params → BT} {L : Params → List Obj} {n k : Nat} {P : Params} {os : OsState} (e : (T P).list n = L P) : (ST T n k P os).abs = SL L k P os := by
  unfold SharedT.abs absHeap
  dsimp only
  rw [e]
theorem absE (P : Params) (k : Nat) (os : OsState) : (ST TE 28 k P os).abs = SL LE k P os := abs_st (by kernel_rfl)
theorem absa (P : Params) (k : Nat) (os : OsState) : (ST Ta 32 k P os).abs = SL La k P os := abs_st (by kernel_rfl)
theorem absf (P : Params) (k : Nat) (os : OsState) : (ST Tf 517 k P os).abs = SL Lf k P os := abs_st (by kernel_rfl)
theorem run_open (w : World) (os : OsState) : impEndsT treeTable (opening PW) w 799 ⟨.nil, 0, {}, #[], {}, 1, os⟩ (start (opening PW)).2 = some (ST TE 28 276 w.params os) := by
  rw [impEndsQ_eq, PySem.W.Fast.te14364793385576792824, PySem.W.Fast.te1435165496053646825]
  kernel_rfl
theorem fence_ (w : World) : (fun os => (fenceModules? PW (SL LE 276 w.params os)).map (fun s => (s.heap, s.gens, s.drawn, s.toks))) = fun _ => some (hp L0 w.params, #[], {}, 276) := by
  rw [PySem.W.Fast.te14289696077712309145]
  kernel_rfl
theorem open_ : ∀ w : World, (fencedOpening treeTable PW w 8014).map (fun s => (s.heap, s.gens, s.drawn, s.toks)) = some (hp L0 w.params, #[], {}, 276) :=
  open_cut (M := 799) (He := hp LE) (ge := #[]) (de := {}) (ke := 276) (fun w => by
    have h := impEnds_of (run_open w (start (opening PW)).1.os)
    rw [absE] at h
    rw [← h]
    rw [show (start (opening PW)).1 = SharedT.abs ⟨.nil, 0, {}, #[], {}, 1, (start (opening PW)).1.os⟩ by
      unfold start SharedT.abs absHeap BT.list
      rw [List.range_zero, List.map_nil]]
    rfl) (by decide +kernel) fence_
theorem size_ (w : World) : ((hp L0 w.params).isNs mainGlobals && (#[] : Array GenState).size == 0, (hp L0 w.params).objs.size, (hp L0 w.params).nsMap mainGlobals "__annotations__") = (true, 28, annE) := by
  rw [PySem.W.Fast.te8920871248978507458]
  kernel_rfl
theorem run_pre (w : World) (os : OsState) : topGo treeTable PW w 28 annE 12 (SL L0 276 w.params os) (topStub PW) = some (SL La 282 w.params os, ⟨denote treeTable cE, cE, ps 0 0 0 0, B0⟩) := by
  rw [PySem.W.Fast.te15667345088766844465, PySem.W.Fast.te14364793385576792824, PySem.W.Fast.te11892475500146522536]
  kernel_rfl
theorem run_block (w : World) (os : OsState) : segRun treeTable PW w 28 annE 1 1 (SL La 282 w.params os) (blockOf bE envE cE (ps 0 0 0 0) B0) = some (.next, SL La 282 w.params os, cE, ps 0 0 0 0) := by
  rw [PySem.W.Fast.te14374325043358763698, PySem.W.Fast.te14364793385576792824]
  kernel_rfl
theorem run_h (w : World) (os : OsState) : segRunT treeTable PW w 28 annE 1 1400 (ST Ta 32 282 w.params os) (piecesOf (sts 0 18) envE cE (ps 0 0 0 0) B0) = some (.next, ST Th 237 614 w.params os, cE, ps 121 0 124 31) := by
  rw [PySem.W.Fast.te10110043849684766642, PySem.W.Fast.te14364793385576792824]
  kernel_rfl
theorem run_c (w : World) (os : OsState) : segRunT treeTable PW w 28 annE 1 500 (ST Th 237 614 w.params os) (piecesOf (sts 18 4) envE cE (ps 121 0 124 31) B0) = some (.next, ST Tc 266 848 w.params os, cE, ps 150 0 151 76) := by
  rw [PySem.W.Fast.te10110043849684766642, PySem.W.Fast.te14364793385576792824]
  kernel_rfl
theorem run_d (w : World) (os : OsState) : segRunT treeTable PW w 28 annE 1 700 (ST Tc 266 848 w.params os) (piecesOf (sts 22 1) envE cE (ps 150 0 151 76) B0) = some (.next, ST Td 321 947 w.params os, cE, ps 152 0 218 20) :=
  byRow2 "special-get-raises" (P := fun w => segRunT treeTable PW w 28 annE 1 700 (ST Tc 266 848 w.params os) (piecesOf (sts 22 1) envE cE (ps 150 0 151 76) B0) = some (.next, ST Td 321 947 w.params os, cE, ps 152 0 218 20))
    (fun w => by
      rw [PySem.W.Fast.te10110043849684766642, PySem.W.Fast.te14364793385576792824]
      kernel_rfl)
    (fun w => by
      rw [PySem.W.Fast.te10110043849684766642, PySem.W.Fast.te14364793385576792824]
      kernel_rfl) w
theorem run_f (w : World) (os : OsState) : segRunT treeTable PW w 28 annE 1 1700 (ST Td 321 947 w.params os) (piecesOf (sts 23 20) envE cE (ps 152 0 218 20) B0) = some (.next, ST Tf 517 1293 w.params os, cE, ps 427 0 453 81) := by
  rw [PySem.W.Fast.te10110043849684766642, PySem.W.Fast.te14364793385576792824]
  kernel_rfl
theorem run_fin (w : World) (os : OsState) : topRun treeTable PW w 28 annE 2 (ST Tf 517 1293 w.params os).abs (restOf [] envE cE (ps 427 0 453 81) B0) = some (ST Tf 517 1293 w.params os).abs := by
  rw [absf]
  rw [PySem.W.Fast.te14082659384304107361, PySem.W.Fast.te14364793385576792824]
  kernel_rfl
theorem run_ (w : World) (os : OsState) : topRun treeTable PW w 28 annE (12 + (1 + (1400 + (500 + (700 + (1700 + 2)))))) (SL L0 276 w.params os) (topStub PW) = some (SL Lf 1293 w.params os) := by
  refine go_top (run_pre w os) (piece_block (run_block w os) ?_)
  rw [show bE = sts 0 18 ++ (sts 18 4 ++ (sts 22 1 ++ (sts 23 20 ++ []))) by kernel_rfl]
  rw [← absf, ← absa]
  exact piece_app (segRun_of (run_h w os)) <| piece_app (segRun_of (run_c w os)) (piece_app (segRun_of (run_d w os)) (piece_app (segRun_of (run_f w os)) (run_fin w os)))
theorem look1 (w : World) (os : OsState) : (staticsOk (importedModules PW.main.body) (hp L0 w.params) (hp Lf w.params) && namesBound PW (hp Lf w.params) && gensDone (SL Lf 1293 w.params os) && laidKept (hp L0 w.params) (hp Lf w.params)) = true := by
  rw [PySem.W.Fast.te5923862056798008813]
  kernel_rfl
set_option maxHeartbeats 4000000 in
theorem said : OpenLaw.wellSaid PySem.Challenge.rw_be0022_01 = true := by
  rw [PySem.W.Fast.te9446332074065402090]
  delta PySem.W.Fast.tw9446332074065402090 PySem.W.Fast.tw17960256430627541270 PySem.W.Fast.tw2436336058641802641 PySem.W.Fast.tw12908688711261696721
  repeat' (first | (with_reducible apply look_both) | (as_aux_lemma => kernel_rfl))
theorem leftM {q : Program} {loose : List Str} {Xt : Shared → Bool} {α : Type} {Yf : Shared → α} {Ya : World → α} (hs : ∀ w : World, ∀ os : OsState, PySem.W.Fast.tw4187177175401517315 q loose (PySem.W.Fast.tw5923862056798008813 PW.main.body) Xt true (SL Lf 1293 w.params os) = openGood q loose)
    (hy : ∀ w : World, ∀ os : OsState, Yf (SL Lf 1293 w.params os) = Ya w) : LeftO PW q loose Xt Yf Ya 8014 :=
  LeftO.of_pieces open_ size_ run_ (by decide +kernel) fun w => funext fun os => looks_pair (look1 w os) (looks_pair (by rw [PySem.W.Fast.te4187177175401517315, PySem.W.Fast.te5923862056798008813]; exact hs w os) (hy w os))
end
section
open PySem PySem.W PyProof.Rows
local macro_rules | `(tactic| o_law) => `(tactic| refine holds_law said fun said => ?_)
local macro_rules | `(tactic| o_head ($_ $k $a $e)) => `(tactic| o_head (PySem.W.kmHook $k $a $e [463, 456]))
local macro_rules | `(tactic| refine $h:ident $a $b $c $d $e $f $g $n ?$_:ident $r*) => `(tactic| refine $h $a $b $c $d $e $f $g $n (leftM (fun w os => by (repeat' (first | apply looks_pair | (as_aux_lemma => kernel_rfl)))) (fun w os => by as_aux_lemma => kernel_rfl)) $r*)
set_option maxHeartbeats 8000000 in
open_top hd for PySem.Challenge.rw_be0022_01
end
end Mine
open PySem PySem.W PyProof.Rows PySem.Calls PySem.Spec
namespace Mine
section
theorem fresh_Ba : True := by w_top off; trivial
noncomputable def LL0 : List Str := looseW Mine.hd.view_1 [Str.ofString "SEQUENCE_TYPES", Str.ofString "to_unicode", Str.ofString "CaselessDict", Str.ofString "_foldline",
      Str.ofString "NAME", Str.ofString "param_value", Str.ofString "UNSAFE_CHAR", Str.ofString "QUNSAFE_CHAR",
      Str.ofString "validate_param_value", Str.ofString "QUOTABLE", Str.ofString "dquote", Str.ofString "q_split",
      Str.ofString "q_join", Str.ofString "Parameters", Str.ofString "UFOLD", Str.ofString "NEWLINE",
      Str.ofString "_strip_ows_around_delimiters", Str.ofString "Contentline", Str.ofString "Contentlines"]
/-- the names of which the world's facts say nothing -/
noncomputable def LLoose : List Str := LL0 ++ (recsOf Mine.hd.view_1).map (·.name) ++ (litsOf Mine.hd.view_1).map (·.1) ++ (clssOf Mine.hd.view_1 LL0).map (·.name)
/-- a goal that names the row and the written heap, for k_fill -/
noncomputable def Dum (_ : OpenLaw) (_ : Params → Frag) : Prop := True
theorem dum : Dum PySem.Challenge.rw_be0022_01 Mine.hd.heap_1 := trivial
/-- what the world's facts are at a heap: the base h₀ lies in it -/
structure Sits (w : World) (mean : ExcName → Option Value) (mg mb : Str → Option Value) (h₀ h : Heap) : Prop where
  keep : ∀ b o, h₀.get? b = some o → h.get? b = some o
  size : h₀.objs.size ≤ h.objs.size
  X : (Mine.hd.heap_1 w.params).In h₀
  T : Top topProg LLoose mean mg mb h₀
/-- what a call leaves: all that stood but bs stands as it stood -/
structure Grew (bs : List Addr) (h h' : Heap) : Prop where
  keep : ∀ c o, c ∉ bs → h.get? c = some o → h'.get? c = some o
  size : h.objs.size ≤ h'.objs.size
theorem Grew.refl (bs : List Addr) (h : Heap) : Grew bs h h := ⟨fun _ _ _ h => h, Nat.le_refl _⟩
theorem Grew.trans {bs : List Addr} {h h₁ h₂ : Heap} (a : Grew bs h h₁) (b : Grew bs h₁ h₂) : Grew bs h h₂ :=
  ⟨fun c o h1 h2 => b.keep c o h1 (a.keep c o h1 h2), Nat.le_trans a.size b.size⟩
theorem Grew.more {bs bs' : List Addr} {h h₁ : Heap} (a : Grew bs h h₁) (hb : ∀ b ∈ bs, b ∈ bs') : Grew bs' h h₁ :=
  ⟨fun c o h1 h2 => a.keep c o (fun q => h1 (hb c q)) h2, a.size⟩
/-- the same for whole states: generators that have come since are bare -/
structure SGrew (bs : List Addr) (s s' : Shared) : Prop where
  heap : Grew bs s.heap s'.heap
  os : s'.os = s.os
  gens : ∃ l : List GenState, (∀ x ∈ l, x.bare = true) ∧ s'.gens = s.gens ++ l.toArray
theorem SGrew.of_heap {bs : List Addr} {s : Shared} {h' : Heap} {d : Drawn} {t : Nat} (G : Grew bs s.heap h') : SGrew bs s ⟨h', s.gens, d, t, s.os⟩ := ⟨G, rfl, [], fun _ h => (nomatch h), by simp⟩
theorem SGrew.refl (bs : List Addr) (s : Shared) : SGrew bs s s := ⟨.refl _ _, rfl, [], fun _ h => (nomatch h), by simp⟩
theorem SGrew.trans {bs : List Addr} {s s₁ s₂ : Shared} (a : SGrew bs s s₁) (b : SGrew bs s₁ s₂) : SGrew bs s s₂ := by
  obtain ⟨l, hl, e⟩ := a.gens
  obtain ⟨l', hl', e'⟩ := b.gens
  refine ⟨a.heap.trans b.heap, b.os.trans a.os, l ++ l', ?_, ?_⟩
  · intro x hx
    rcases List.mem_append.mp hx with h | h
    · exact hl x h
    · exact hl' x h
  · rw [e', e]; simp
theorem SGrew.bare {bs : List Addr} {s s₁ : Shared} (a : SGrew bs s s₁) (h : AllBare s.gens) : AllBare s₁.gens := by
  obtain ⟨l, hl, e⟩ := a.gens
  intro x hx
  rw [e] at hx
  rcases Array.mem_append.mp hx with q | q
  · exact h x q
  · exact hl x (by simpa using q)
section
variable {w : World} {mean : ExcName → Option Value} {mg mb : Str → Option Value} {h₀ h h' : Heap} {bs : List Addr}
theorem Sits.grew (S : Sits w mean mg mb h₀ h) (G : Grew bs h h') (hb : ∀ b ∈ bs, h₀.get? b = none) : Sits w mean mg mb h₀ h' :=
  ⟨fun b o e => G.keep b o (fun q => by rw [hb b q] at e; cases e) (S.keep b o e), Nat.le_trans S.size G.size, S.X, S.T⟩
theorem Sits.nil (S : Sits w mean mg mb h₀ h) (G : Grew [] h h') : Sits w mean mg mb h₀ h' := S.grew G (fun _ h => (nomatch h))
theorem sits_of {L : Addr} {m : Str → Option Value} (F : Fr h₀ L h m) (X : (Mine.hd.heap_1 w.params).In h₀) (T : Top topProg LLoose mean mg mb h₀) : Sits w mean mg mb h₀ h :=
  ⟨F.keep, Nat.le_trans F.above (Nat.le_of_lt F.ns.lt), X, T⟩
theorem fr_grew {L : Addr} {m : Str → Option Value} (F : Fr h₀ L h m) (G : Grew bs h h') (hb : ∀ b ∈ bs, h₀.get? b = none) (hL : L ∉ bs) : Fr h₀ L h' m := by
  obtain ⟨oL, es, ep, hL1, a, c, d⟩ := F.ns
  exact ⟨⟨oL, es, ep, G.keep L oL hL hL1, a, c, d⟩, fun b o e => G.keep b o (fun q => by rw [hb b q] at e; cases e) (F.keep b o e), F.above⟩
theorem news_grew {L : Addr} {news : List (Addr × Obj)} (N : News h₀ L h news) (G : Grew bs h h') (hn : ∀ p ∈ news, p.1 ∉ bs) : News h₀ L h' news :=
  fun p hp => ⟨G.keep _ _ (hn p hp) (N p hp).1, (N p hp).2⟩
theorem fr_nil {L : Addr} {m : Str → Option Value} (F : Fr h₀ L h m) (G : Grew [] h h') : Fr h₀ L h' m := fr_grew F G (fun _ h => (nomatch h)) (fun h => (nomatch h))
theorem news_nil {L : Addr} {news : List (Addr × Obj)} (N : News h₀ L h news) (G : Grew [] h h') : News h₀ L h' news := news_grew N G (fun _ _ h => (nomatch h))
theorem news_cons {L b : Addr} {o : Obj} {news : List (Addr × Obj)} (hb : h.get? b = some o) (h1 : b ≠ L) (h2 : h₀.get? b = none) (N : News h₀ L h news) : News h₀ L h ((b, o) :: news) := by
  intro p hp
  rcases List.mem_cons.mp hp with rfl | hp
  · exact ⟨hb, h1, h2⟩
  · exact N p hp
end
section
variable {w : World} {mean : ExcName → Option Value} {mg mb : Str → Option Value} {h₀ : Heap} {s : Shared} {A : Around}
  {R : Result → Shared → Prop} {name qual : Str} {params : Arguments} {body : List Stmt} {scope : Scope} {cl : List (Str × Addr)} {dV kV doc pm cdv ct oc : Value} {an od : Option Addr} {osl : Array (Option Value)} {f : Addr} {args : Args} {binds : List (Str × Value)}
/-- their addresses -/
noncomputable abbrev adr (bs : List (Addr × Obj)) : List Addr := bs.map (·.1)
/-- a base that hides bs, for a callee -/
structure Under (bs : List (Addr × Obj)) (s : Shared) (g : Heap) (L : Addr) : Prop where
  up : ∀ c o, c ∉ adr bs → s.heap.get? c = some o → g.get? c = some o
  down : ∀ c o, g.get? c = some o → s.heap.get? c = some o
  size : s.heap.objs.size = L
  lt : ∀ p ∈ bs, p.1 < L
theorem enter (bs : List (Addr × Obj)) (S : Sits w mean mg mb h₀ s.heap) (hb : ∀ p ∈ bs, s.heap.get? p.1 = some p.2 ∧ h₀.get? p.1 = none)
    (ho : (Mine.hd.heap_1 w.params).lookup f = some ⟨oc, od, .func (fnX name qual params body scope cl dV kV doc pm an cdv ct), osl⟩) (hcd : codeIn (Mine.hd.heap_1 w.params) cdv qual = true) (hroom : A.depth < recursionLimit)
    (hbind : BindsTo s (fnX name qual params body scope cl dV kV doc pm an cdv ct) args binds) (hloc : ∀ y ∈ binds, scope.names.lookup y.1 = some .local)
    (h : ∀ g L' h₁, Fr g L' h₁ (fun y => binds.reverse.lookup y) → News g L' h₁ bs → (Mine.hd.heap_1 w.params).In g → Top topProg LLoose mean mg mb g → Under bs s g L' →
      wpAny (model PySem.Challenge.pw_be0022_01 w) (A.deeper (envX qual scope L' f cdv cl)) (execs body (envX qual scope L' f cdv cl))
        (fun fl s' => R (.ok (.ret (match fl with | .ret v => v | _ => .none))) s') (fun _ _ => False) { s with heap := h₁, toks := s.toks + binds.length })
    (hcell : ∀ x ∈ scope.names, x.2 ≠ .cell) (hco : scope.isCoroutine = false) (hgen : scope.isGenerator = false) (hk : scope.kind = .function) :
    codeAny (model PySem.Challenge.pw_be0022_01 w) A (.call (.ref f) args) R s := by
  have st : h₀.StaysIn (hideAll s.heap (adr bs)) := fun b o e => hideAll_get _ (S.keep b o e) (fun q => by
    obtain ⟨p, hp, rfl⟩ := List.mem_map.mp q
    rw [(hb p hp).2] at e; cases e)
  have lim : s.heap.NoLimit := S.T.nolimit.keeps S.keep
  refine codeAny_call_def (fd := fnX name qual params body scope cl dV kV doc pm an cdv ct) (body := body) (binds := binds) hroom (S.keep _ _ (S.X _ _ ho)) rfl lim (codeRec_of (S.X.keeps S.keep) hcd) rfl hbind hcell hloc (fun h₁ hns hk₁ => ?_) hco hgen hk
  refine wpAny_mono (h (hideAll s.heap (adr bs)) s.heap.objs.size h₁ ⟨hns, fun b o e => hk₁ b o (of_hideAll _ e), Nat.le_of_eq (hideAll_size _ _)⟩
    (fun p hp => ⟨hk₁ _ _ (hb p hp).1, Nat.ne_of_lt (Heap.lt_size (hb p hp).1), hideAll_none _ (List.mem_map_of_mem hp)⟩) (S.X.keeps st) (S.T.keeps st)
    ⟨fun c o h1 h2 => hideAll_get _ h2 h1, fun c o e => of_hideAll _ e, rfl, fun p hp => Heap.lt_size (hb p hp).1⟩) (fun _ _ x => x) fun _ _ x => x.elim
theorem Under.grew {bs : List (Addr × Obj)} {g : Heap} {L : Addr} {h' : Heap} {m : Str → Option Value} (U : Under bs s g L) (F : Fr g L h' m) : Grew (adr bs) s.heap h' :=
  ⟨fun c o h1 h2 => F.keep c o (U.up c o h1 h2), by rw [U.size]; exact Nat.le_of_lt F.ns.lt⟩
end
section
set_option autoImplicit true
variable {M : Model} {A : Around} {E : Value → Shared → Prop} {s : Shared}
theorem st0 (h : InvEndN a b c d e f g) : InvEndN a b c d e f g := h
theorem st1 (h : wpAny M A (exec (Stmt.While a b c d) e) Q E s) : wpAny M A (exec (Stmt.While a b c d) e) Q E s := h
theorem st2 (h : wpAny M A (exec (Stmt.For a b c d f) e) Q E s) : wpAny M A (exec (Stmt.For a b c d f) e) Q E s := h
theorem st3 (h : wpAny M A (eval (Expr.ListComp a b c d) e) Q E s) : wpAny M A (eval (Expr.ListComp a b c d) e) Q E s := h
theorem st4 (h : wpAny M A (exec (Stmt.Assign a (Expr.ListComp f b c d) g) e) Q E s) : wpAny M A (exec (Stmt.Assign a (Expr.ListComp f b c d) g) e) Q E s := h
theorem st5 (h : wpAny M A (eval (Expr.GeneratorExp a b c d) e) Q E s) : wpAny M A (eval (Expr.GeneratorExp a b c d) e) Q E s := h
theorem st6 (h : wpAny M A (pyIter a) Q E s) : wpAny M A (pyIter a) Q E s := h
theorem st7 (h : wpAny M A (call (Value.ref a) b c) Q E s) : wpAny M A (call (Value.ref a) b c) Q E s := h
theorem st8 (h : PySem.wpAt M A a b Q E s) : PySem.wpAt M A a b Q E s := h
theorem st9 (h : wpAny M A (getMethod (Value.ref a) b c) Q E s) : wpAny M A (getMethod (Value.ref a) b c) Q E s := h
theorem st10 (h : wpAny M A (exec (Stmt.Try a b c d f) e) Q E s) : wpAny M A (exec (Stmt.Try a b c d f) e) Q E s := h
theorem st11 (h : wpAny M A (subscriptTail a b (Value.ref c) (Value.int d e)) Q E s) : wpAny M A (subscriptTail a b (Value.ref c) (Value.int d e)) Q E s := h
theorem st12 (h : wpAny M A (compareOp a (Value.ref b) (Value.ref c)) Q E s) : wpAny M A (compareOp a (Value.ref b) (Value.ref c)) Q E s := h
theorem st13 (h : wpAny M A (exec (Stmt.If a b c d) e) Q E s) : wpAny M A (exec (Stmt.If a b c d) e) Q E s := h
theorem st14 (h : wpAny M A (call (Value.builtin a) (Value.str b c :: Value.ref d :: [])) Q E s) : wpAny M A (call (Value.builtin a) (Value.str b c :: Value.ref d :: [])) Q E s := h
theorem dn1 {n e L : Nat} (h : n + e = L) (l : e < L) : n - 1 < n := by omega
theorem dn2 {n e L : Nat} (h : n + e = L) (l : e < L) : n - 1 + (e + 1) = L := by omega
theorem dn3 {n e L : Nat} (h : n + e = L) (l : e + 1 < L) : n - 2 < n := by omega
theorem dn4 {n e L : Nat} (h : n + e = L) (l : e + 1 < L) : n - 2 + (e + 2) = L := by omega
theorem dn5 {n k n2 e L : Nat} (h : n + k = L) (h2 : n2 + e = L) (l : k < e) (l2 : e < L) : n2 - 1 < n := by omega
theorem dn6 {a k e : Nat} (h : a ≤ k) (l : k < e) : a ≤ e + 1 := by omega
theorem dn7 {C e k a b : Nat} (l1 : C - e = a + 1) (l2 : C - k = b + 1) (h : k < e) : a < b := by omega
theorem ol6 {a b : Nat} : -(a : Int) ≤ (b : Int) := by omega
theorem ol7 {b : Nat} : (-9223372036854775808 : Int) < (b : Int) := by omega
theorem ol8 {a b : Nat} : (a : Int) + (b : Int) = ((a + b : Nat) : Int) := rfl
theorem ol9 {b : Int} : 0 + b = b := Int.zero_add b
theorem ol10 {a b c : Nat} (h : a ≤ b) : a ≤ b + c := Nat.le_add_right_of_le h
theorem ol11 {a b : Nat} (h : b ≠ a) : a ≠ b := h.symm
theorem ol0 {u d k : Nat} (h : u + k < d) : u < d := Nat.lt_of_le_of_lt (Nat.le_add_right u k) h
theorem ol1 {u a d k : Nat} (h : u + k < d) (e : Nat.ble a k = true) : u + a < d := by have := Nat.le_of_ble_eq_true e; omega
theorem ol2 {u a b d k : Nat} (h : u + k < d) (e : Nat.ble (a + b) k = true) : u + a + b < d := by have := Nat.le_of_ble_eq_true e; omega
theorem ol3 {u a b c d k : Nat} (h : u + k < d) (e : Nat.ble (a + b + c) k = true) : u + a + b + c < d := by have := Nat.le_of_ble_eq_true e; omega
theorem ol4 {x c d : Nat} (h : x ≤ c) (e : Nat.ble c d = true) : x ≤ d := Nat.le_trans h (Nat.le_of_ble_eq_true e)
theorem ol5 {x y c d : Nat} (h : x = y) (h2 : y ≤ c) (e : Nat.ble c d = true) : x ≤ d := h ▸ ol4 h2 e
end
end
local macro_rules | `(tactic| k_in) => `(tactic| first | with_reducible assumption | exact Frag.In.keeps (by with_reducible assumption) (Fr.keep (by with_reducible assumption)))
local macro_rules | `(tactic| omega) => `(tactic| first | (with_reducible first | exact ol2 (by assumption) (by with_unfolding_all exact rfl) | exact ol4 (by assumption) (by with_unfolding_all exact rfl) | exact ol1 (by assumption) (by with_unfolding_all exact rfl) | exact ol3 (by assumption) (by with_unfolding_all exact rfl) | exact ol5 (by assumption) (by assumption) (by with_unfolding_all exact rfl) | exact ol0 (by assumption) | exact ol10 (by assumption) | exact ol11 (by assumption) | exact ol8 | exact ol9 | exact ol6 | exact ol7) | omega (config := {}))
section
theorem fresh_Pl : True := by w_top off; trivial
/-- the signs of a text -/
noncomputable abbrev cps (x : Str) : List Nat := x.cps.toList
/-- a text of signs -/
noncomputable def txt (l : List Nat) : Str := ⟨l.toArray⟩
theorem cps_txt (l : List Nat) : cps (txt l) = l := rfl
theorem txt_cps (x : Str) : txt (cps x) = x := rfl
theorem len_cps (x : Str) : (cps x).length = x.length := by simp [cps, Str.length]
theorem txt_inj {a b : List Nat} (h : txt a = txt b) : a = b := congrArg cps h
theorem str_len_txt (l : List Nat) : (txt l).length = l.length := by simp [txt, Str.length]
open PySem.Builtin.Str in
theorem idx_clip {a b n : Nat} : strSliceIndices (some (a : Int)) (some (b : Int)) 1 n = strSliceIndices (some ((min a n : Nat) : Int)) (some ((min b n : Nat) : Int)) 1 n := by
  have h2 : (1 : Int) > 0 := by decide
  have e : ∀ k : Nat, ¬ ((k : Int) < 0) := fun k => by omega
  simp only [strSliceIndices, e, h2, if_false, if_true]
  congr 1 <;> omega
theorem slice_nat (x : Str) {a b : Nat} (h : a ≤ b) : Txt.slice x (some (a : Int)) (some (b : Int)) = txt (((cps x).drop a).take (b - a)) := by
  have e : Txt.slice x (some (a : Int)) (some (b : Int)) = Txt.slice x (some ((min a x.length : Nat) : Int)) (some ((min b x.length : Nat) : Int)) := by
    unfold Txt.slice
    rw [idx_clip]
  have l := len_cps x
  rw [e, beq_iff_eq.mp (slice_closes (x := x) (i := ((min a x.length : Nat) : Int)) (j := ((min b x.length : Nat) : Int)) ⟨by omega, by omega, by simp only [cps] at l; omega⟩)]
  unfold txt
  congr 2
  show List.take _ (List.drop _ (cps x)) = List.take _ (List.drop _ (cps x))
  by_cases ha : a ≤ x.length
  · rw [Int.toNat_sub, Int.toNat_natCast, Nat.min_eq_left ha]
    by_cases hb : b ≤ x.length
    · rw [Nat.min_eq_left hb]
    · rw [Nat.min_eq_right (Nat.le_of_not_le hb), List.take_of_length_le (by rw [List.length_drop, l]; exact Nat.le_refl _), List.take_of_length_le (by rw [List.length_drop, l]; exact Nat.sub_le_sub_right (Nat.le_of_not_le hb) a)]
  · rw [List.drop_eq_nil_of_le (by omega : (cps x).length ≤ a), List.drop_eq_nil_of_le (by omega : (cps x).length ≤ _)]
    simp
theorem slice_to_nat (x : Str) (b : Nat) : Txt.slice x none (some (b : Int)) = txt ((cps x).take b) := by
  have e : Txt.slice x none (some (b : Int)) = Txt.slice x (some ((0 : Nat) : Int)) (some (b : Int)) := by
    unfold Txt.slice
    congr 1
  rw [e, slice_nat x (Nat.zero_le _)]
  simp
theorem slice_from_nat (x : Str) (a : Nat) : Txt.slice x (some (a : Int)) none = txt ((cps x).drop a) := by
  have l := len_cps x
  by_cases ha : a ≤ x.length
  · rw [slice_from_eq (b := (x.length : Int)) (by omega) (by omega) rfl]
    unfold txt
    congr 2
    show List.take _ (List.drop _ (cps x)) = List.drop _ (cps x)
    rw [show ((a : Int)).toNat = a by omega, List.take_of_length_le]
    simp only [List.length_drop]; omega
  · rw [slice_beyond (by omega), List.drop_eq_nil_of_le (by omega)]; rfl
/-- strip line ends, as many as stand -/
noncomputable def nls : List Nat → List Nat
  | [] => []
  | c :: r => if c = 10 then nls r else match r with
    | [] => [c]
    | d :: q => if c = 13 ∧ d = 10 then nls q else c :: d :: q
theorem nls_le : ∀ l : List Nat, (nls l).length ≤ l.length
  | [] => Nat.le_refl _
  | c :: r => by
    unfold nls
    split
    · exact Nat.le_succ_of_le (nls_le r)
    · split
      · exact Nat.le_refl _
      · rename_i d q
        split
        · have := nls_le q
          simp only [List.length_cons]; omega
        · exact Nat.le_refl _
theorem nls_10 (r : List Nat) : nls (10 :: r) = nls r := by rw [nls.eq_def]; simp
theorem nls_1310 (r : List Nat) : nls (13 :: 10 :: r) = nls r := by rw [nls.eq_def]; simp
theorem nls_not {l : List Nat} (h1 : l.head? ≠ some 10) (h2 : l.take 2 ≠ [13, 10]) : nls l = l := by
  cases l with
  | nil => rfl
  | cons c r =>
    have hc : c ≠ 10 := fun e => h1 (by rw [e]; rfl)
    rw [nls.eq_def]; dsimp only; rw [if_neg hc]
    cases r with
    | nil => rfl
    | cons d q =>
      have : ¬ (c = 13 ∧ d = 10) := fun e => h2 (by rw [e.1, e.2]; rfl)
      simp [this]
/-- folds undone -/
noncomputable def unf : List Nat → List Nat
  | [] => []
  | c :: r => match h : nls (c :: r) with
    | [] => c :: unf r
    | b :: q => if q.length < r.length ∧ (b = 32 ∨ b = 9) then unf q else c :: unf r
termination_by l => l.length
decreasing_by
  all_goals simp_wf
  all_goals (have := nls_le (c :: r); rw [h] at this; simp only [List.length_cons] at this; omega)
theorem unf_nil : unf [] = [] := by rw [unf]
theorem unf_drop {c : Nat} {r q : List Nat} {b : Nat} (h : nls (c :: r) = b :: q) (hl : q.length < r.length) (hb : b = 32 ∨ b = 9) : unf (c :: r) = unf q := by
  rw [unf]
  split
  · rename_i e; rw [h] at e; cases e
  · rename_i b' q' e
    rw [h] at e; cases e
    rw [if_pos ⟨hl, hb⟩]
theorem unf_keep {c : Nat} {r : List Nat} (h : ∀ b q, nls (c :: r) = b :: q → q.length < r.length → ¬ (b = 32 ∨ b = 9)) : unf (c :: r) = c :: unf r := by
  rw [unf]
  split
  · rfl
  · rename_i b q e
    rw [if_neg fun z => h b q e z.1 z.2]
theorem ofs_nl : Str.ofString "\n" = txt [10] := by decide +kernel
theorem ofs_crnl : Str.ofString "\x0d\n" = txt [13, 10] := by decide +kernel
theorem ofs_cr : Str.ofString "\x0d" = txt [13] := by decide +kernel
theorem ofs_sp : Str.ofString " " = txt [32] := by decide +kernel
theorem ofs_tab : Str.ofString "\t" = txt [9] := by decide +kernel
theorem slice1 (x : Str) (e : Nat) : Txt.slice x (some (e : Int)) (some ((e : Int) + 1)) = txt (((cps x).drop e).take 1) := by
  have := slice_nat x (Nat.le_succ e)
  rw [show e.succ - e = 1 by omega] at this
  exact this
theorem slice2 (x : Str) (e : Nat) : Txt.slice x (some (e : Int)) (some ((e : Int) + 2)) = txt (((cps x).drop e).take 2) := by
  have := slice_nat x (Nat.le_add_right e 2)
  rw [show e + 2 - e = 2 by omega] at this
  exact this
theorem nl1 {x : Str} {e : Nat} (h : (Txt.slice x (some (e : Int)) (some ((e : Int) + 1)) == Str.ofString "\n") = true) : ∃ r, (cps x).drop e = 10 :: r := by
  rw [slice1, ofs_nl] at h
  have h := txt_inj (beq_iff_eq.mp h)
  cases q : (cps x).drop e with
  | nil => rw [q] at h; cases h
  | cons a r => rw [q] at h; simp at h; exact ⟨r, by rw [h]⟩
theorem nl1f {x : Str} {e : Nat} (h : (Txt.slice x (some (e : Int)) (some ((e : Int) + 1)) == Str.ofString "\n") = false) : ((cps x).drop e).head? ≠ some 10 := by
  rw [slice1, ofs_nl] at h
  intro q
  cases w : (cps x).drop e with
  | nil => rw [w] at q; cases q
  | cons a r =>
    rw [w] at q h
    simp at q
    subst q
    simp at h
theorem nl2 {x : Str} {e : Nat} (h : (Txt.slice x (some (e : Int)) (some ((e : Int) + 2)) == Str.ofString "\x0d\n") = true) : ∃ r, (cps x).drop e = 13 :: 10 :: r := by
  rw [slice2, ofs_crnl] at h
  have h := txt_inj (beq_iff_eq.mp h)
  cases q : (cps x).drop e with
  | nil => rw [q] at h; cases h
  | cons a r =>
    rw [q] at h
    cases r with
    | nil => simp at h
    | cons b r => simp at h; exact ⟨r, by rw [h.1, h.2]⟩
theorem nl2f {x : Str} {e : Nat} (h : (Txt.slice x (some (e : Int)) (some ((e : Int) + 2)) == Str.ofString "\x0d\n") = false) : ((cps x).drop e).take 2 ≠ [13, 10] := by
  rw [slice2, ofs_crnl] at h
  intro q
  rw [q] at h
  simp at h
theorem bl1 {x : Str} {e : Nat} (h : ([Str.ofString " ", Str.ofString "\t"].any fun y => y == Txt.slice x (some (e : Int)) (some ((e : Int) + 1))) = true) : ∃ b r, (cps x).drop e = b :: r ∧ (b = 32 ∨ b = 9) := by
  rw [slice1, ofs_sp, ofs_tab] at h
  simp only [List.any_cons, List.any_nil, Bool.or_false, Bool.or_eq_true, beq_iff_eq] at h
  cases q : (cps x).drop e with
  | nil => rw [q] at h; rcases h with h | h <;> (have := txt_inj h; simp at this)
  | cons a r =>
    rw [q] at h
    refine ⟨a, r, rfl, ?_⟩
    rcases h with h | h <;> (have := txt_inj h; simp at this; omega)
theorem bl1f {x : Str} {e : Nat} (h : ([Str.ofString " ", Str.ofString "\t"].any fun y => y == Txt.slice x (some (e : Int)) (some ((e : Int) + 1))) = false) : ∀ b r, (cps x).drop e = b :: r → ¬ (b = 32 ∨ b = 9) := by
  rw [slice1, ofs_sp, ofs_tab] at h
  simp only [List.any_cons, List.any_nil, Bool.or_false, Bool.or_eq_false_iff, beq_eq_false_iff_ne, ne_eq] at h
  intro b r q z
  rw [q] at h
  rcases z with z | z <;> subst z
  · exact h.1 rfl
  · exact h.2 rfl
theorem at_drop {x : Str} {e c : Nat} {r : List Nat} (h : (cps x).drop e = c :: r) : x.cps[e]? = some c ∧ e < x.length ∧ (cps x).drop (e + 1) = r := by
  have l := len_cps x
  have h1 : (cps x)[e]? = some c := by
    have := congrArg List.head? h
    simpa [List.head?_drop] using this
  have h2 : e < (cps x).length := (List.getElem?_eq_some_iff.mp h1).1
  refine ⟨by simpa [cps] using h1, by rw [← len_cps x]; exact h2, ?_⟩
  have := congrArg List.tail h
  simpa [List.tail_drop] using this
theorem item_nat {x : Str} {e c : Nat} {r : List Nat} (h : (cps x).drop e = c :: r) : Txt.item x (e : Int) = txt [c] :=
  item_meets (Int.natCast_nonneg e) (by simpa using (at_drop h).1)
theorem item_lt {x : Str} {k : Nat} (h : k < x.length) : ∃ c r, (cps x).drop k = c :: r := by
  have l := len_cps x
  cases q : (cps x).drop k with
  | nil => have := List.drop_eq_nil_iff.mp q; rw [len_cps] at this; omega
  | cons c r => exact ⟨c, r, rfl⟩
/-- texts joined by a text -/
noncomputable def jn (sep : List Nat) : List (List Nat) → List Nat
  | [] => []
  | [x] => x
  | x :: y :: r => x ++ sep ++ jn sep (y :: r)
theorem txt_append (a b : List Nat) : txt a ++ txt b = txt (a ++ b) := by
  show (⟨a.toArray ++ b.toArray⟩ : Str) = ⟨(a ++ b).toArray⟩
  simp
theorem str_join (sep : List Nat) : ∀ ls : List (List Nat), Str.join (txt sep) (ls.map txt) = txt (jn sep ls)
  | [] => rfl
  | [x] => rfl
  | x :: y :: r => by
    have := str_join sep (y :: r)
    show txt x ++ txt sep ++ Str.join (txt sep) ((y :: r).map txt) = _
    rw [this, txt_append, txt_append]; rfl
theorem join_txt (sep : List Nat) (ls : List (List Nat)) : Txt.join (txt sep) (ls.map txt) = txt (jn sep ls) := by
  unfold Txt.join
  rw [StrLaws.glued_eq_join, str_join]
theorem ofs_empty : Str.ofString "" = txt [] := by decide +kernel
theorem jn_nil : ∀ ls : List (List Nat), jn [] ls = ls.flatten
  | [] => rfl
  | [x] => by simp [jn]
  | x :: y :: r => by rw [jn, jn_nil (y :: r)]; simp
theorem join_chars (l : List Nat) : Txt.join (Str.ofString "") (l.map fun c => txt [c]) = txt l := by
  have := join_txt [] (l.map fun c => [c])
  rw [List.map_map] at this
  rw [ofs_empty]
  refine Eq.trans this ?_
  rw [jn_nil]
  congr 1
  clear this
  induction l with
  | nil => rfl
  | cons a r ih => simp only [List.map_cons, List.flatten_cons, ih]; rfl
theorem sum_ones (l : List Nat) : ((l.map fun c => txt [c]).map (·.length)).sum = l.length := by
  induction l with
  | nil => rfl
  | cons a r ih => simp only [List.map_cons, List.sum_cons, ih, str_len_txt, List.length_cons, List.length_nil]; omega
theorem joinOk_chars {l : List Nat} (h : l.length ≤ 200000) : JoinOk (Str.ofString "") (l.map fun c => txt [c]) = true :=
  joinOk_of_weight (by rw [sum_ones, List.length_map]; omega) (by decide)
theorem slice_m1_from (l : List Nat) : (Txt.slice (txt l) (some (-1)) none == txt [13]) = decide (l.getLast? = some 13) := by
  by_cases hl : l = []
  · subst hl; decide +kernel
  · obtain ⟨r, c, rfl⟩ : ∃ r c, l = r ++ [c] := ⟨l.dropLast, l.getLast hl, (List.dropLast_concat_getLast hl).symm⟩
    have h : Txt.slice (txt (r ++ [c])) (some (-1)) none = txt [c] := by
      have e : Txt.slice (txt (r ++ [c])) (some (-1)) none = Txt.slice (txt (r ++ [c])) (some ((r.length : Nat) : Int)) none := by
        unfold Txt.slice
        rw [StrLaws.sliceIdx_neg_lo none (txt (r ++ [c])).length (by decide) (by rw [str_len_txt]; simp; omega)]
        rw [show (-1 : Int) + ((txt (r ++ [c])).length : Nat) = ((r.length : Nat) : Int) by rw [str_len_txt]; simp; omega]
      rw [e, slice_from_nat]
      simp [txt, cps]
    rw [h]
    simp only [List.getLast?_concat]
    by_cases hc : c = 13
    · subst hc; simp
    · rw [decide_eq_false (by simpa using hc)]
      simp only [beq_eq_false_iff_ne, ne_eq]
      intro q
      have := txt_inj q
      simp at this
      exact hc this
theorem slice_m1_to (l : List Nat) : Txt.slice (txt l) none (some (-1)) = txt l.dropLast := by
  by_cases hl : l = []
  · subst hl; decide +kernel
  · obtain ⟨r, c, rfl⟩ : ∃ r c, l = r ++ [c] := ⟨l.dropLast, l.getLast hl, (List.dropLast_concat_getLast hl).symm⟩
    have e : Txt.slice (txt (r ++ [c])) none (some (-1)) = Txt.slice (txt (r ++ [c])) none (some ((r.length : Nat) : Int)) := by
      unfold Txt.slice
      rw [StrLaws.sliceIdx_neg_hi none (txt (r ++ [c])).length (by decide) (by rw [str_len_txt]; simp; omega)]
      rw [show (-1 : Int) + ((txt (r ++ [c])).length : Nat) = ((r.length : Nat) : Int) by rw [str_len_txt]; simp; omega]
    rw [e, slice_to_nat]
    simp [txt, cps]
theorem drop_at {x : Str} {i c : Nat} (h : x.cps[i]? = some c) : (cps x).drop i = c :: (cps x).drop (i + 1) := by
  have h1 : (cps x)[i]? = some c := by simpa [cps] using h
  obtain ⟨h2, h3⟩ := List.getElem?_eq_some_iff.mp h1
  rw [List.drop_eq_getElem_cons h2, h3]
theorem sign_nl {c : Nat} (h : ((⟨#[c]⟩ : Str) == Str.ofString "\n") = true) : c = 10 := by
  rw [ofs_nl] at h
  have := txt_inj (a := [c]) (beq_iff_eq.mp h)
  simpa using this
theorem sign_nlf {c : Nat} (h : ((⟨#[c]⟩ : Str) == Str.ofString "\n") = false) : c ≠ 10 := by
  intro q; subst q
  rw [ofs_nl] at h
  simp [txt] at h
theorem slice_m1_t {l : List Nat} (h : (Txt.slice (txt l) (some (-1)) none == Str.ofString "\x0d") = true) : l.getLast? = some 13 := by
  rw [ofs_cr, slice_m1_from] at h
  exact of_decide_eq_true h
theorem slice_m1_f {l : List Nat} (h : (Txt.slice (txt l) (some (-1)) none == Str.ofString "\x0d") = false) : l.getLast? ≠ some 13 := by
  rw [ofs_cr, slice_m1_from] at h
  exact of_decide_eq_false h
end
section
theorem fresh_T1 : True := by w_top off; trivial
/-- the bag: a list of one int -/
noncomputable def IsBag (h : Heap) (b : Addr) (n : Int) : Prop := ∃ t e, h.get? b = some { cls := .type "list", data := .seq #[Value.int n t] e }
theorem isBag {h : Heap} {b : Addr} {n v : Int} {t : Tok} {e : Nat} (hg : h.get? b = some (listOf #[Value.int v t] e)) (hv : v = n) : IsBag h b n := hv ▸ ⟨t, e, hg⟩
noncomputable def IsI (v : Value) (n : Int) : Prop := ∃ t, v = .int n t
theorem isI {n v : Int} {t : Tok} (hv : v = n) : IsI (.int v t) n := hv ▸ ⟨t, rfl⟩
set_option maxHeartbeats 8000000 in
theorem draw_spec {w : World} {mean : ExcName → Option Value} {mg mb : Str → Option Value} {h₀ : Heap} {s : Shared} {A : Around} {Q E : Value → Shared → Prop}
  {b : Addr} {n : Int} {t t' : Tok} {e : Nat} {k : Int}
  (S : Sits w mean mg mb h₀ s.heap) (hb : ∀ p ∈ [(b, ({ cls := .type "list", data := .seq #[Value.int n t] e } : Obj))], s.heap.get? p.1 = some p.2 ∧ h₀.get? p.1 = none)
  (hn : 0 ≤ n) (hk1 : 0 < k) (hk2 : k < 1000) (hd : A.depth + 1 < recursionLimit) (hu : A.units + 8 < cLine)
  (hret : ∀ v h' tk', IsI v (n % k) → IsBag h' b (n / k) → Grew [b] s.heap h' → Q v { s with heap := h', toks := tk' }) :
  wpAny (model PySem.Challenge.pw_be0022_01 w) A (call (.ref 492) [.ref b, .int k t']) Q E s := by
  have D := dum; revert D; k_fill; intro D
  refine wpAny_call ?_
  (k_dflt (refine' enter _ ?k1 ?kb ?k6 ?k7 ?k8 ?k9 ?kl ?_ ?c2 ?c3 ?c4 ?c5; (case k1 => k_asm); (case kb => first | assumption | exact List.forall_mem_nil _); (case k6 => k_is); (case k7 => k_is); (case k8 => omega); (case k9 => first | exact BindsTo.of_eq rfl | (refine' binds_K (K := Mine.hd.heap_1 _) (Frag.In.keeps (Sits.X (by assumption)) (Sits.keep (by assumption))) rfl ?kd ?kr1 ?kr2 ?kr3; (case kd => k_is); (case kr1 => exact rfl); (case kr2 => exact rfl); (case kr3 => exact rfl))); (case c2 => decide); (case kl => exact locs rfl); (case c3 => exact rfl); (case c4 => exact rfl); (case c5 => exact rfl); k_whole); intro _ _ _ _ _ _ _ _; (try dsimp only); (try k_fold))
  (repeat' (first | (k_unfold; (try dsimp only)) | ((fail_if_success with_reducible (first | refine st0 ?_ | refine st1 ?_ | refine st2 ?_ | refine st3 ?_ | refine st4 ?_ | refine st5 ?_ | refine st6 ?_ | refine st7 ?_ | refine st8 ?_)); walk1) | (dsimp only; (fail_if_success with_reducible (first | refine st0 ?_ | refine st1 ?_ | refine st2 ?_ | refine st3 ?_ | refine st4 ?_ | refine st5 ?_ | refine st6 ?_ | refine st7 ?_ | refine st8 ?_)); walk1) | (leave1; (try dsimp only)) | dsimp only | fail "no step"))
  refine hret _ _ _ (isI ?_) (isBag ((by assumption : News _ _ _ _).get (.head _)) ?_) (by (with_reducible rename Under _ _ _ _ => U9); exact U9.grew (by assumption))
  · simp [Int.fmod_eq_emod_of_nonneg _ (Int.le_of_lt hk1)]
  · simp [Int.fdiv_eq_ediv_of_nonneg _ (Int.le_of_lt hk1)]
end
section
theorem fresh_T2 : True := by w_top off; trivial
/-- a list of texts in the heap -/
noncomputable abbrev txts (l : List (Str × Tok)) (e : Nat) : Obj := listOf (strValues l).toArray e
theorem news_push {h₀ h : Heap} {L fa : Addr} {news : List (Addr × Obj)} {l : List (Str × Tok)} {y : Str} {t : Tok} {e : Nat} (N : News h₀ L h news) (hm : (fa, listOf ((strValues l).toArray.push (.str y t)) e) ∈ news) :
    News h₀ L h [(fa, txts (l ++ [(y, t)]) e)] := by
  have : txts (l ++ [(y, t)]) e = listOf ((strValues l).toArray.push (.str y t)) e := by simp [txts, strValues]
  rw [this]
  intro p hp
  cases hp with
  | head => exact N _ hm
  | tail _ h => cases h
/-- the outer loop's state -/
noncomputable def UnfJ (x : Str) (t : Tok) : Nat → (Str → Option Value) → List (Addr × Obj) → Prop := fun n m news =>
  m (Str.ofString "told") = some (.str x t) ∧ ∃ (fa : Addr) (k : Nat) (z : Int) (tk : Tok) (l : List (Str × Tok)) (e : Nat) (out : List Nat), m (Str.ofString "found") = some (.ref fa) ∧ m (Str.ofString "k") = some (.int z tk) ∧ z = k ∧
    news = [(fa, txts l e)] ∧ l.map (·.1) = out.map (fun c => txt [c]) ∧ n + k = x.length ∧ out.length ≤ k ∧ out ++ unf ((cps x).drop k) = unf (cps x)
/-- the inner loop's state -/
noncomputable def UnfI (x : Str) (t : Tok) (fa : Addr) (k : Nat) (tk : Tok) (l : List (Str × Tok)) (e : Nat) : Nat → (Str → Option Value) → List (Addr × Obj) → Prop := fun n m news =>
  m (Str.ofString "told") = some (.str x t) ∧ m (Str.ofString "found") = some (.ref fa) ∧ m (Str.ofString "k") = some (.int k tk) ∧ ∃ (en : Nat) (z : Int) (tn : Tok), m (Str.ofString "end") = some (.int z tn) ∧ z = en ∧
    news = [(fa, txts l e)] ∧ n + en = x.length ∧ k ≤ en ∧ nls ((cps x).drop en) = nls ((cps x).drop k)
theorem if_at {m : Str → Option Value} {x : Str} {v : Value} (e : m x = some v) : (fun y => if y = x then some v else m y) = m := by
  funext y
  by_cases hy : y = x
  · rw [if_pos hy, hy, e]
  · rw [if_neg hy]
theorem fr_at {h₀ h : Heap} {L : Addr} {m : Str → Option Value} {x : Str} {v : Value} (F : Fr h₀ L h m) (e : m x = some v) : Fr h₀ L h (fun y => if y = x then some v else m y) := by
  rw [if_at e]; exact F
theorem fr_at2 {h₀ h : Heap} {L : Addr} {m : Str → Option Value} {x₁ x₂ : Str} {v₁ v₂ : Value} (F : Fr h₀ L h m) (e₁ : m x₁ = some v₁) (e₂ : m x₂ = some v₂) :
    Fr h₀ L h (fun y => if y = x₁ then some v₁ else if y = x₂ then some v₂ else m y) := by
  have : (fun y => if y = x₁ then some v₁ else if y = x₂ then some v₂ else m y) = fun y => if y = x₁ then some v₁ else m y := by
    funext y; rw [congrFun (if_at e₂) y]
  rw [this]; exact fr_at F e₁
theorem fr_at3 {h₀ h : Heap} {L : Addr} {m : Str → Option Value} {x₁ x₂ x₃ : Str} {v₁ v₂ v₃ : Value} (F : Fr h₀ L h m) (e₁ : m x₁ = some v₁) (e₂ : m x₂ = some v₂) (e₃ : m x₃ = some v₃) :
    Fr h₀ L h (fun y => if y = x₁ then some v₁ else if y = x₂ then some v₂ else if y = x₃ then some v₃ else m y) := by
  have : (fun y => if y = x₁ then some v₁ else if y = x₂ then some v₂ else if y = x₃ then some v₃ else m y) = fun y => if y = x₁ then some v₁ else if y = x₂ then some v₂ else m y := by
    funext y; rw [congrFun (if_at e₃) y]
  rw [this]; exact fr_at2 F e₁ e₂
theorem fr_at4 {h₀ h : Heap} {L : Addr} {m : Str → Option Value} {x₁ x₂ x₃ x₄ : Str} {v₁ v₂ v₃ v₄ : Value} (F : Fr h₀ L h m) (e₁ : m x₁ = some v₁) (e₂ : m x₂ = some v₂) (e₃ : m x₃ = some v₃) (e₄ : m x₄ = some v₄) :
    Fr h₀ L h (fun y => if y = x₁ then some v₁ else if y = x₂ then some v₂ else if y = x₃ then some v₃ else if y = x₄ then some v₄ else m y) := by
  have : (fun y => if y = x₁ then some v₁ else if y = x₂ then some v₂ else if y = x₃ then some v₃ else if y = x₄ then some v₄ else m y) = fun y => if y = x₁ then some v₁ else if y = x₂ then some v₂ else if y = x₃ then some v₃ else m y := by
    funext y; rw [congrFun (if_at e₄) y]
  rw [this]; exact fr_at3 F e₁ e₂ e₃
theorem if_at2 {m : Str → Option Value} {x₁ x₂ : Str} {v₁ v₂ : Value} (e₁ : m x₁ = some v₁) (e₂ : m x₂ = some v₂) :
    (fun y => if y = x₁ then some v₁ else if y = x₂ then some v₂ else m y) = m := by
  have : (fun y => if y = x₁ then some v₁ else if y = x₂ then some v₂ else m y) = fun y => if y = x₁ then some v₁ else m y := by
    funext y; rw [congrFun (if_at e₂) y]
  rw [this, if_at e₁]
theorem if_at3 {m : Str → Option Value} {x₁ x₂ x₃ : Str} {v₁ v₂ v₃ : Value} (e₁ : m x₁ = some v₁) (e₂ : m x₂ = some v₂) (e₃ : m x₃ = some v₃) :
    (fun y => if y = x₁ then some v₁ else if y = x₂ then some v₂ else if y = x₃ then some v₃ else m y) = m := by
  have : (fun y => if y = x₁ then some v₁ else if y = x₂ then some v₂ else if y = x₃ then some v₃ else m y) = fun y => if y = x₁ then some v₁ else if y = x₂ then some v₂ else m y := by
    funext y; rw [congrFun (if_at e₃) y]
  rw [this, if_at2 e₁ e₂]
theorem if_at4 {m : Str → Option Value} {x₁ x₂ x₃ x₄ : Str} {v₁ v₂ v₃ v₄ : Value} (e₁ : m x₁ = some v₁) (e₂ : m x₂ = some v₂) (e₃ : m x₃ = some v₃) (e₄ : m x₄ = some v₄) :
    (fun y => if y = x₁ then some v₁ else if y = x₂ then some v₂ else if y = x₃ then some v₃ else if y = x₄ then some v₄ else m y) = m := by
  have : (fun y => if y = x₁ then some v₁ else if y = x₂ then some v₂ else if y = x₃ then some v₃ else if y = x₄ then some v₄ else m y) = fun y => if y = x₁ then some v₁ else if y = x₂ then some v₂ else if y = x₃ then some v₃ else m y := by
    funext y; rw [congrFun (if_at e₄) y]
  rw [this, if_at3 e₁ e₂ e₃]
set_option maxHeartbeats 8000000 in
theorem unfolded_spec {w : World} {mean : ExcName → Option Value} {mg mb : Str → Option Value} {h₀ : Heap} {s : Shared} {A : Around} {Q E : Value → Shared → Prop}
  {x : Str} {t : Tok}
  (S : Sits w mean mg mb h₀ s.heap) (hx : x.length ≤ 100000) (hd : A.depth + 1 < recursionLimit) (hu : A.units + 8 < cLine) (hA : A.handled = none)
  (hret : ∀ v h' tk', (∃ t, v = .str (txt (unf (cps x))) t) → Grew [] s.heap h' → Q v { s with heap := h', toks := tk' }) :
  wpAny (model PySem.Challenge.pw_be0022_01 w) A (call (.ref 506) [.str x t]) Q E s := by
  (have Dz := dum; revert Dz; k_fill; intro Dz; clear Dz)
  refine wpAny_call ?_
  (k_dflt (refine' enter _ ?k1 ?kb ?k6 ?k7 ?k8 ?k9 ?kl ?_ ?c2 ?c3 ?c4 ?c5; (case k1 => k_asm); (case kb => first | assumption | exact List.forall_mem_nil _); (case k6 => k_is); (case k7 => k_is); (case k8 => omega); (case k9 => first | exact BindsTo.of_eq rfl | (refine' binds_K (K := Mine.hd.heap_1 _) (Frag.In.keeps (Sits.X (by assumption)) (Sits.keep (by assumption))) rfl ?kd ?kr1 ?kr2 ?kr3; (case kd => k_is); (case kr1 => exact rfl); (case kr2 => exact rfl); (case kr3 => exact rfl))); (case c2 => decide); (case kl => exact locs rfl); (case c3 => exact rfl); (case c4 => exact rfl); (case c5 => exact rfl); k_whole); intro _ _ _ _ _ _ _ _; (try dsimp only); (try k_fold))
  (repeat' (first | (k_unfold; (try dsimp only)) | ((fail_if_success with_reducible (first | refine st0 ?_ | refine st1 ?_ | refine st2 ?_ | refine st3 ?_ | refine st4 ?_ | refine st5 ?_ | refine st6 ?_ | refine st7 ?_ | refine st8 ?_)); walk1) | (dsimp only; (fail_if_success with_reducible (first | refine st0 ?_ | refine st1 ?_ | refine st2 ?_ | refine st3 ?_ | refine st4 ?_ | refine st5 ?_ | refine st6 ?_ | refine st7 ?_ | refine st8 ?_)); walk1) | (leave1; (try dsimp only)) | dsimp only | fail "no step"))
  rename Fr _ _ _ _ => F1
  rename News _ _ _ _ => N1
  refine' While_inv (UnfJ x t) F1 N1 (n₀ := x.length) ?j0 ?turn PassesOwn.never
  case j0 => exact ⟨rfl, _, 0, _, _, [], _, [], rfl, rfl, rfl, rfl, rfl, rfl, Nat.le_refl _, by simp⟩
  case turn =>
    rintro n m₁ news₁ h₁ tk₁ F2 N2 ⟨e1, fa, k, z, tkk, l, e, out, e2, e3, rfl, rfl, e4, e5, e6, e7⟩
    have hsz : (strValues l).length ≤ 1048576 := by have := congrArg List.length e4; simp only [List.length_map] at this; simp only [strValues, List.length_map]; omega
    clear F1 N1
    replace F2 := fr_at3 F2 e1 e2 e3
    try k_fold
    (repeat' (first | (k_unfold; (try dsimp only)) | ((fail_if_success with_reducible (first | refine st0 ?_ | refine st1 ?_ | refine st2 ?_ | refine st3 ?_ | refine st4 ?_ | refine st5 ?_ | refine st6 ?_ | refine st7 ?_ | refine st8 ?_)); walk1) | (dsimp only; (fail_if_success with_reducible (first | refine st0 ?_ | refine st1 ?_ | refine st2 ?_ | refine st3 ?_ | refine st4 ?_ | refine st5 ?_ | refine st6 ?_ | refine st7 ?_ | refine st8 ?_)); walk1) | (leave1; (try dsimp only)) | dsimp only | fail "no step"))
    · rename Fr _ _ _ _ => F1
      rename News _ _ _ _ => N1
      refine' While_inv (UnfI x t fa k tkk l e) F1 N1 (n₀ := x.length - k) ?j1 ?turn1 PassesOwn.never
      case j1 => exact ⟨rfl, rfl, rfl, k, _, _, rfl, rfl, rfl, by omega, Nat.le_refl _, rfl⟩
      case turn1 =>
        rintro n₂ m₂ news₂ h₂ tk₂ F3 N3 ⟨a1, a2, a3, en, z, tn, a4, rfl, rfl, a5, a6, a7⟩
        clear F1 N1
        replace F3 := fr_at4 F3 a1 a2 a3 a4
        try k_fold
        (repeat' (first | (k_unfold; (try dsimp only)) | ((fail_if_success with_reducible (first | refine st0 ?_ | refine st1 ?_ | refine st2 ?_ | refine st3 ?_ | refine st4 ?_ | refine st5 ?_ | refine st6 ?_ | refine st7 ?_ | refine st8 ?_)); walk1) | (dsimp only; (fail_if_success with_reducible (first | refine st0 ?_ | refine st1 ?_ | refine st2 ?_ | refine st3 ?_ | refine st4 ?_ | refine st5 ?_ | refine st6 ?_ | refine st7 ?_ | refine st8 ?_)); walk1) | (leave1; (try dsimp only)) | dsimp only | fail "no step"))
        · rename (Txt.slice _ _ _ == _) = true => hs1
          obtain ⟨r, hr⟩ := nl1 hs1
          obtain ⟨b1, b2, b3⟩ := at_drop hr
          have b2' : (en : Int) < x.length := Int.ofNat_lt.mpr b2
          (repeat' (first | (k_unfold; (try dsimp only)) | ((fail_if_success with_reducible (first | refine st0 ?_ | refine st1 ?_ | refine st2 ?_ | refine st3 ?_ | refine st4 ?_ | refine st5 ?_ | refine st6 ?_ | refine st7 ?_ | refine st8 ?_)); walk1) | (dsimp only; (fail_if_success with_reducible (first | refine st0 ?_ | refine st1 ?_ | refine st2 ?_ | refine st3 ?_ | refine st4 ?_ | refine st5 ?_ | refine st6 ?_ | refine st7 ?_ | refine st8 ?_)); walk1) | (leave1; (try dsimp only)) | dsimp only | fail "no step"))
          refine' WhileStep.intro (n' := n₂ - 1) (by assumption) (by assumption) (dn1 a5 b2) ⟨rfl, rfl, rfl, en + 1, _, _, rfl, ?_, rfl, dn2 a5 b2, Nat.le_succ_of_le a6, ?_⟩
          · rw [item_nat hr, ofs_cr, if_neg (by decide)]; rfl
          · rw [b3, ← a7, hr, nls_10]
        · rename (Txt.slice _ _ _ == _) = true => hs1
          obtain ⟨r, hr⟩ := nl2 hs1
          obtain ⟨b1, b2, b3⟩ := at_drop hr
          obtain ⟨c1, c2, c3⟩ := at_drop b3
          have b2' : (en : Int) < x.length := Int.ofNat_lt.mpr b2
          (repeat' (first | (k_unfold; (try dsimp only)) | ((fail_if_success with_reducible (first | refine st0 ?_ | refine st1 ?_ | refine st2 ?_ | refine st3 ?_ | refine st4 ?_ | refine st5 ?_ | refine st6 ?_ | refine st7 ?_ | refine st8 ?_)); walk1) | (dsimp only; (fail_if_success with_reducible (first | refine st0 ?_ | refine st1 ?_ | refine st2 ?_ | refine st3 ?_ | refine st4 ?_ | refine st5 ?_ | refine st6 ?_ | refine st7 ?_ | refine st8 ?_)); walk1) | (leave1; (try dsimp only)) | dsimp only | fail "no step"))
          refine' WhileStep.intro (n' := n₂ - 2) (by assumption) (by assumption) (dn3 a5 c2) ⟨rfl, rfl, rfl, en + 2, _, _, rfl, ?_, rfl, dn4 a5 c2, Nat.le_add_right_of_le a6, ?_⟩
          · rw [item_nat hr, ofs_cr, if_pos (by decide)]; omega
          · rw [c3, ← a7, hr, nls_1310]
        · rename (_ == Str.ofString "\n") = false => f1
          rename (_ == Str.ofString "\x0d\n") = false => f2
          rename List.any _ _ = true => f3
          rename (k : Int) < (x.length : Int) => f4
          rename (k : Int) < (en : Int) => f5
          rename News _ _ _ _ => N9
          obtain ⟨b, r, hr, hb⟩ := bl1 f3
          obtain ⟨b1, b2, b3⟩ := at_drop hr
          obtain ⟨c, r0, hc⟩ := item_lt (x := x) (k := k) (Int.ofNat_lt.mp f4)
          rw [nls_not (nl1f f1) (nl2f f2), hr, hc] at a7
          have l1 := congrArg List.length hr
          have l2 := congrArg List.length hc
          have l0 := len_cps x
          simp only [List.length_drop, List.length_cons] at l1 l2
          refine' WhileStep.intro (n' := n₂ - 1) (by assumption) (fun p hp => N9 p (.tail _ hp)) (dn5 e5 a5 (Int.ofNat_lt.mp f5) b2) ⟨rfl, _, en + 1, _, _, l, e, out, rfl, rfl, rfl, rfl, e4, dn2 a5 b2, dn6 e6 (Int.ofNat_lt.mp f5), ?_⟩
          rw [b3, ← e7, hc, unf_drop a7.symm (dn7 l1 l2 (Int.ofNat_lt.mp f5)) hb]
        · rename (_ == Str.ofString "\n") = false => f1
          rename (_ == Str.ofString "\x0d\n") = false => f2
          rename List.any _ _ = false => f3
          rename (k : Int) < (x.length : Int) => f4
          rename News _ _ _ _ => N9
          obtain ⟨c, r0, hc⟩ := item_lt (x := x) (k := k) (Int.ofNat_lt.mp f4)
          obtain ⟨b1, b2, b3⟩ := at_drop hc
          rw [nls_not (nl1f f1) (nl2f f2), hc] at a7
          have N8 := news_push N9 (.tail _ (.head _))
          refine' WhileStep.intro (n' := n - 1) (by assumption) N8 (dn1 e5 b2) ⟨rfl, _, k + 1, _, _, _, _, out ++ [c], rfl, rfl, rfl, rfl, ?_, dn2 e5 b2, ?_, ?_⟩
          · rw [List.map_append, List.map_append, e4, item_nat hc]; rfl
          · rw [List.length_append]; simp; omega
          · rw [b3, ← e7, hc, unf_keep (fun b q hb _ => bl1f f3 b q (a7.trans hb)), List.append_assoc]; rfl
        · rename (_ == Str.ofString "\n") = false => f1
          rename (_ == Str.ofString "\x0d\n") = false => f2
          rename (k : Int) < (x.length : Int) => f4
          rename ¬ (k : Int) < (en : Int) => f5
          rename News _ _ _ _ => N9
          obtain ⟨c, r0, hc⟩ := item_lt (x := x) (k := k) (Int.ofNat_lt.mp f4)
          obtain ⟨b1, b2, b3⟩ := at_drop hc
          obtain rfl : en = k := Nat.le_antisymm (Int.ofNat_le.mp (Int.not_lt.mp f5)) a6
          have a8 := nls_not (nl1f f1) (nl2f f2)
          have N8 := news_push N9 (.head _)
          refine' WhileStep.intro (n' := n - 1) (by assumption) N8 (dn1 e5 b2) ⟨rfl, _, en + 1, _, _, _, _, out ++ [c], rfl, rfl, rfl, rfl, ?_, dn2 e5 b2, ?_, ?_⟩
          · rw [List.map_append, List.map_append, e4, item_nat hc]; rfl
          · rw [List.length_append]; simp; omega
          · rw [b3, ← e7, hc, unf_keep (fun b q hb hl => by rw [hc] at a8; rw [a8] at hb; cases hb; exact absurd hl (Nat.lt_irrefl _)), List.append_assoc]; rfl
    · rename ¬ _ < _ => f4
      rename News _ _ _ _ => N9
      rename Fr _ _ _ _ => F9
      have l0 := len_cps x
      rw [List.drop_eq_nil_of_le (by omega : (cps x).length ≤ k), unf_nil, List.append_nil] at e7
      subst e7
      refine SC.join (N9.isList (.head _)) e4 (joinOk_chars (by omega)) ?_
      intro t9 k9
      rw [join_chars]
      dsimp only
      k_unfold
      refine hret _ _ _ ⟨_, rfl⟩ (by (with_reducible rename Under _ _ _ _ => U9); exact U9.grew F9)
end
section
theorem fresh_Lo : True := by w_top off; trivial
section
variable {prog : Program} {w : World} {A : Around} {E : Value → Shared → Prop} {s : Shared} {env : Env} {h₀ : Heap} {x : Str} {body : List Stmt} {Q : Flow → Shared → Prop}
/-- a loop over whatever walks: an invariant over the frame's map and the ledger; own: the iterator's objects -/
theorem loop_walks {I : Addr} {fp wr : List Addr} {n : Nat} {P : Nat → Value → Prop} {St : Nat → Heap → Prop} {m₀ : Str → Option Value} {news : List (Addr × Obj)} (J : Nat → (Str → Option Value) → List (Addr × Obj) → Prop)
    (W : Walks prog w A I fp wr n P St) (hLf : env.locals ∉ fp) (hwr : ∀ b ∈ wr, h₀.get? b = none) (hst : St 0 s.heap) (F : Fr h₀ env.locals s.heap m₀) (N : News h₀ env.locals s.heap news) (hsep : ∀ p ∈ news, p.1 ∉ fp) (hj : J 0 m₀ news)
    (turn : ∀ i v m₁ news₁ h tk own, i < n → P i v → news₁.map (·.1) = news.map (·.1) → OwnOff own (news.map (·.1)) → J i m₁ news₁ → Fr h₀ env.locals h (fun y => if y = x then some v else m₁ y) → News h₀ env.locals h (news₁ ++ own) →
      wpAny (model prog w) A (execs body env) (InvPostN h₀ env.locals (J (i + 1)) own (news.map (·.1)) { s with heap := h, toks := tk } Q) E { s with heap := h, toks := tk })
    (done : ∀ m₁ news₁ h tk, J n m₁ news₁ → Fr h₀ env.locals h m₁ → News h₀ env.locals h news₁ → Q .next { s with heap := h, toks := tk }) :
    LoopAtV prog w A h₀ env x body Q E (.ref I) s := by
  have apart : ∀ news₁ : List (Addr × Obj), news₁.map (·.1) = news.map (·.1) → ∀ p ∈ news₁, p.1 ∉ fp := fun news₁ e p hp q => by
    have : p.1 ∈ news.map (·.1) := e ▸ List.mem_map_of_mem hp
    obtain ⟨p', hp', e'⟩ := List.mem_map.mp this
    exact hsep p' hp' (e' ▸ q)
  refine ⟨I, fp, wr, n, P, St, m₀, news, fun i m₁ news₁ => news₁.map (·.1) = news.map (·.1) ∧ J i m₁ news₁, rfl, W, hLf, hwr, fun p hp q => hsep p hp (W.sub _ q), hst, F, N, ⟨rfl, hj⟩, ?_, ?_⟩
  · rintro i v m₁ news₁ s₁ own ⟨hh, tk, rfl⟩ hi hP ⟨hadr, hJ⟩ hoff hown _ _ _ F₁ N₁
    have hsep' : OwnOff own (news.map (·.1)) := fun p hp b hb e => by
      obtain ⟨q, hq, rfl⟩ := List.mem_map.mp hb
      exact hsep q hq (e ▸ hown p hp)
    have N₂ : News h₀ env.locals hh (news₁ ++ own) := fun p hp => N₁ p ((List.mem_append.mp hp).elim (fun h => List.mem_append.mpr (.inr h)) fun h => List.mem_append.mpr (.inl h))
    refine wpAny_mono (turn i v m₁ news₁ hh tk own hi hP hadr hsep' hJ F₁ N₂) (fun f s₂ p => ?_) fun _ _ e => e
    have fin : InvEndN h₀ env.locals (J (i + 1)) own (news.map (·.1)) { s with heap := hh, toks := tk } s₂ →
        LoopStepU h₀ env.locals wr own (fun m₁ news₁ => news₁.map (·.1) = news.map (·.1) ∧ J (i + 1) m₁ news₁) { s with heap := hh, toks := tk } .next s₂ := by
      rintro ⟨h', tk', m', news', nx, e, F', N', hn, ho, ha, hm⟩
      exact ⟨rfl, h', tk', m', nx, e, F', fun p hp => N' p ((List.mem_append.mp hp).elim (ho p) (hn p)), fun p hp q => apart nx ha p hp (W.sub _ q), ha, hm⟩
    cases f with
    | ret v => exact .ret p
    | brk => exact .brk p
    | next => exact .next (fin p)
    | cont => exact .cont (fin p)
  · rintro h' tk m' news' F' N' _ ⟨_, hJ⟩
    exact done m' news' h' tk hJ F' N'
theorem end_one {J : (Str → Option Value) → List (Addr × Obj) → Prop} {L fa : Addr} {o : Obj} {own : List (Addr × Obj)} {m' : Str → Option Value} {s₁ : Shared} {h' : Heap} {tk : Nat} (F : Fr h₀ L h' m') (N : News h₀ L h' ((fa, o) :: own)) (hj : J m' [(fa, o)]) :
    InvEndN h₀ L J own [fa] s₁ { s₁ with heap := h', toks := tk } :=
  InvEndN.intro F N hj rfl (fun p hp => by rw [List.mem_singleton.mp hp]; exact .head _) fun p hp => .tail _ hp
/-- for c in a text -/
theorem iter_text {x' : Str} {t : Tok} {m₀ : Str → Option Value} {news : List (Addr × Obj)} (J : Nat → (Str → Option Value) → List (Addr × Obj) → Prop) (hh : A.handled = none)
    (F : Fr h₀ env.locals s.heap m₀) (N : News h₀ env.locals s.heap news) (hj : J 0 m₀ news)
    (turn : ∀ i c t m₁ news₁ h tk own, x'.cps[i]? = some c → news₁.map (·.1) = news.map (·.1) → OwnOff own (news.map (·.1)) → J i m₁ news₁ → Fr h₀ env.locals h (fun y => if y = x then some (.str ⟨#[c]⟩ t) else m₁ y) → News h₀ env.locals h (news₁ ++ own) →
      wpAny (model prog w) A (execs body env) (InvPostN h₀ env.locals (J (i + 1)) own (news.map (·.1)) { s with heap := h, toks := tk } Q) E { s with heap := h, toks := tk })
    (done : ∀ m₁ news₁ h tk, J x'.length m₁ news₁ → Fr h₀ env.locals h m₁ → News h₀ env.locals h news₁ → Q .next { s with heap := h, toks := tk }) :
    wpAny (model prog w) A (pyIter (.str x' t)) (fun it s₂ => LoopAtV prog w A h₀ env x body Q E it s₂) E s := by
  refine wpAny_pyIter_str fun o St hW hst => ?_
  have new : h₀.get? s.heap.objs.size = none := by
    cases q : h₀.get? s.heap.objs.size with
    | none => rfl
    | some o' => exact absurd (Heap.lt_size (F.keep _ _ q)) (Nat.lt_irrefl _)
  refine loop_walks (s := { s with heap := s.heap.push o }) (m₀ := m₀) (news := news) J (hW A hh) ?_ ?_ hst (F.push _) (fun p hp => ⟨Heap.get?_push_of_some _ (N p hp).1, (N p hp).2⟩) ?_ hj ?_ ?_
  · intro q
    exact absurd F.ns.lt ((List.mem_singleton.mp q) ▸ Nat.lt_irrefl _)
  · intro b hb
    rw [List.mem_singleton.mp hb]; exact new
  · intro p hp q
    exact absurd (Heap.lt_size (N p hp).1) ((List.mem_singleton.mp q) ▸ Nat.lt_irrefl _)
  · rintro i v m₁ news₁ h tk own hi ⟨c, u, hc, rfl⟩ hadr hoff hJ F₁ N₁
    exact turn i c u m₁ news₁ h tk own hc hadr hoff hJ F₁ N₁
  · intro m₁ news₁ h tk hJ F₁ N₁
    exact done m₁ news₁ h tk hJ F₁ N₁
/-- for v in a list that the ledger (or the base) holds -/
theorem iter_items {l : Addr} {vs : List Value} {m₀ : Str → Option Value} {news : List (Addr × Obj)} (J : Nat → (Str → Option Value) → List (Addr × Obj) → Prop) (hh : A.handled = none)
    (hl : s.heap.IsList l vs.toArray) (hLl : l ≠ env.locals) (F : Fr h₀ env.locals s.heap m₀) (N : News h₀ env.locals s.heap news) (hnl : ∀ p ∈ news, p.1 ≠ l) (hj : J 0 m₀ news)
    (turn : ∀ i v m₁ news₁ h tk own, vs[i]? = some v → news₁.map (·.1) = news.map (·.1) → OwnOff own (news.map (·.1)) → J i m₁ news₁ → Fr h₀ env.locals h (fun y => if y = x then some v else m₁ y) → News h₀ env.locals h (news₁ ++ own) →
      wpAny (model prog w) A (execs body env) (InvPostN h₀ env.locals (J (i + 1)) own (news.map (·.1)) { s with heap := h, toks := tk } Q) E { s with heap := h, toks := tk })
    (done : ∀ m₁ news₁ h tk, J vs.length m₁ news₁ → Fr h₀ env.locals h m₁ → News h₀ env.locals h news₁ → Q .next { s with heap := h, toks := tk }) :
    wpAny (model prog w) A (pyIter (.ref l)) (fun it s₂ => LoopAtV prog w A h₀ env x body Q E it s₂) E s := by
  obtain ⟨ol, hol, _⟩ := id hl
  have hlt := Heap.lt_size hol
  have hne : l ≠ s.heap.objs.size := Nat.ne_of_lt hlt
  refine wpAny_pyIter_list hl ?_
  have new : h₀.get? s.heap.objs.size = none := by
    cases q : h₀.get? s.heap.objs.size with
    | none => rfl
    | some o' => exact absurd (Heap.lt_size (F.keep _ _ q)) (Nat.lt_irrefl _)
  have W := Walks.list (prog := prog) (w := w) hh s.heap.objs.size l hne vs.toArray
  have hlen : vs.toArray.size = vs.length := by simp
  rw [hlen] at W
  refine loop_walks (s := { s with heap := s.heap.push _ }) (m₀ := m₀) (news := news) J W ?_ ?_ ⟨⟨_, Heap.get?_push_size _ rfl, rfl, rfl⟩, hl.at fun o e => Heap.get?_push_of_some _ e⟩ (F.push _) (fun p hp => ⟨Heap.get?_push_of_some _ (N p hp).1, (N p hp).2⟩) ?_ hj ?_ ?_
  · intro q
    rcases List.mem_cons.mp q with e | q
    · exact absurd F.ns.lt (e ▸ Nat.lt_irrefl _)
    · exact hLl (List.mem_singleton.mp q).symm
  · intro b hb
    rw [List.mem_singleton.mp hb]; exact new
  · intro p hp q
    rcases List.mem_cons.mp q with e | q
    · exact absurd (Heap.lt_size (N p hp).1) (e ▸ Nat.lt_irrefl _)
    · exact hnl p hp (List.mem_singleton.mp q)
  · rintro i v m₁ news₁ h tk own hi hP hadr hoff hJ F₁ N₁
    exact turn i v m₁ news₁ h tk own (by simpa using hP) hadr hoff hJ F₁ N₁
  · intro m₁ news₁ h tk hJ F₁ N₁
    exact done m₁ news₁ h tk hJ F₁ N₁
end
end
section
theorem fresh_Co : True := by w_top off; trivial
/-- a turn's end: the same state but for heap and tokens; at adr all stands; J' of the heap -/
noncomputable def TEnd (adr : List Addr) (J' : Heap → Prop) (s s' : Shared) : Prop :=
  ∃ h' tk', s' = { s with heap := h', toks := tk' } ∧ (∀ b ∈ adr, ∀ o, s.heap.get? b = some o → h'.get? b = some o) ∧ J' h'
theorem TEnd.intro {adr : List Addr} {J' : Heap → Prop} {s : Shared} {h' : Heap} {tk' : Nat} (hk : ∀ b ∈ adr, ∀ o, s.heap.get? b = some o → h'.get? b = some o) (hJ : J' h') : TEnd adr J' s { s with heap := h', toks := tk' } := ⟨h', tk', rfl, hk, hJ⟩
section
variable {prog : Program} {w : World} {A : Around} {E : Value → Shared → Prop} {env : Env}
/-- a comprehension's block by an invariant over the turn, the items made so far and the heap -/
theorem comp_block_J {elt iter : Expr} {x : Str} {px : Pos} {ifs : List Expr} {scope : Scope} {cl : List (Str × Addr)} {pos : Pos} {s₂ : Shared} {I : Addr} {fp wr : List Addr} {n : Nat} {P : Nat → Value → Prop}
    {St : Nat → Heap → Prop} (J : Nat → List Value → Heap → Prop) (W : Walks prog w A I fp wr n P St) (hsz : n ≤ sizeLine) {RR : Value → Addr → Result → Shared → Prop}
    (hcell : ∀ y ∈ scope.names, y.2 ≠ .cell) (hkind : scope.kind = .function) (hx : scope.names.lookup x = some .local) (hst : St 0 s₂.heap) (hfp : ∀ b ∈ fp, b < s₂.heap.objs.size)
    (hJ0 : J 0 [] s₂.heap)
    (hJs : ∀ i ys h h', J i ys h → (∀ b o, b ∉ wr → b ≠ s₂.heap.objs.size → b ≠ s₂.heap.objs.size + 1 → h.get? b = some o → h'.get? b = some o) → s₂.heap.objs.size ≤ h'.objs.size → J i ys h')
    (turn : ∀ i v ys h tk m₁ (E' : Value → Shared → Prop), i < n → P i v → J i ys h → h.Ns (s₂.heap.objs.size + 1) m₁ → m₁ x = some v →
      wpAny (model prog w) A (forIn ifs true fun c r => if r = true then do let ok ← isTrue c (compEnvC scope cl (s₂.heap.objs.size + 1) env) (eval c (compEnvC scope cl (s₂.heap.objs.size + 1) env)); pure (ForInStep.yield ok) else pure (ForInStep.yield r))
        (fun ok s₃ => if ok = true then wpAny (model prog w) A (eval elt (compEnvC scope cl (s₂.heap.objs.size + 1) env)) (fun y s₄ => TEnd (s₂.heap.objs.size :: (s₂.heap.objs.size + 1) :: fp) (J (i + 1) (ys ++ [y])) { s₂ with heap := h, toks := tk } s₄) E' s₃
          else TEnd (s₂.heap.objs.size :: (s₂.heap.objs.size + 1) :: fp) (J (i + 1) ys) { s₂ with heap := h, toks := tk } s₃) E' { s₂ with heap := h, toks := tk })
    (hRR : ∀ h tk m' ys, h.Ns (s₂.heap.objs.size + 1) m' → h.get? s₂.heap.objs.size = some (listOf ys.toArray ys.length) → ys.length ≤ n → J n ys h → RR (.ref s₂.heap.objs.size) (s₂.heap.objs.size + 1) (.ok .next) { s₂ with heap := h, toks := tk }) :
    wpAny (model prog w) A (newList []) (fun acc s₃ => wpAny (model prog w) A (newFunctionEnv scope env.globals cl [] env.qual none .none (some env)) (fun cenv s₄ =>
      codeAny (model prog w) A (.compStart (.ListComp elt [⟨.Name x px, iter, ifs, 0⟩] scope pos) 0 (.ref I) acc { cenv with scope := relabel scope env }) (RR acc cenv.locals) s₄) E s₃) E s₂ := by
  refine wpAny_newObj_type (wpAny_newFunctionEnv hcell (by intro y hy; simp at hy) (fun h₁ hns₁ hsb₁ => ?_) hkind)
  dsimp only at hns₁ hsb₁ ⊢
  generalize hH2 : s₂.heap.push { cls := .type "list", dict := none, data := .seq ([] : List Value).toArray } = H2 at hns₁ hsb₁ ⊢
  have hC : H2.objs.size = s₂.heap.objs.size + 1 := by rw [← hH2, Heap.size_push]
  rw [hC] at hns₁ hsb₁ ⊢
  have below : ∀ b, b < s₂.heap.objs.size → b ≠ s₂.heap.objs.size + 1 ∧ b ≠ s₂.heap.objs.size := fun b hb => ⟨Nat.ne_of_lt (Nat.lt_succ_of_lt hb), Nat.ne_of_lt hb⟩
  have hDC : s₂.heap.objs.size ≠ s₂.heap.objs.size + 1 := Nat.ne_of_lt (Nat.lt_succ_self _)
  have hDf : s₂.heap.objs.size ∉ fp := fun hm => Nat.lt_irrefl _ (hfp _ hm)
  have hCf : s₂.heap.objs.size + 1 ∉ fp := fun hm => Nat.lt_irrefl _ (Nat.lt_of_succ_lt (hfp _ hm))
  have old : ∀ b o, s₂.heap.get? b = some o → h₁.get? b = some o := fun b o e => hsb₁.extBut b o (below b (Heap.lt_size e)).1 (Heap.get?_push_of_some _ (hH2 ▸ Heap.get?_push_of_some _ e))
  have hacc : h₁.get? s₂.heap.objs.size = some (listOf #[] 0) := hsb₁.extBut _ _ hDC (Heap.get?_push_of_some _ (hH2 ▸ Heap.get?_push_size _ rfl))
  have hst₁ : St 0 h₁ := W.frame _ _ _ hst fun b _ o e => old b o e
  have hsz₁ : s₂.heap.objs.size ≤ h₁.objs.size := by
    rw [hsb₁.1, Heap.size_push, hC]; omega
  have loop : ∀ s₃ : Shared, s₃ = { s₂ with heap := h₁, toks := s₂.toks + ([] : List (Str × Value)).length } →
      codeAny (model prog w) A (.compLoop (.ListComp elt [⟨.Name x px, iter, ifs, 0⟩] scope pos) 0 (.ref I) (.ref s₂.heap.objs.size) (compEnvC scope cl (s₂.heap.objs.size + 1) env))
        (RR (.ref s₂.heap.objs.size) (s₂.heap.objs.size + 1)) s₃ := by
    rintro s₃ rfl
    refine codeAny_compLoop_tests
      (fun k s' => ∃ h' tk i ys m', s' = { s₂ with heap := h', toks := tk } ∧ i ≤ n ∧ k = n + 1 - i ∧ ys.length ≤ i ∧ St i h' ∧ h'.Ns (s₂.heap.objs.size + 1) m' ∧ h'.get? s₂.heap.objs.size = some (listOf ys.toArray ys.length) ∧ J i ys h') ?_ (n + 1)
      ⟨h₁, _, 0, [], _, rfl, Nat.zero_le _, rfl, Nat.le_refl _, hst₁, hns₁, hacc, hJs _ _ _ _ hJ0 (fun b o _ _ _ e => old b o e) hsz₁⟩
    · rintro k s' ⟨h', tk, i, ys, m', rfl, hi, rfl, hyl, hst', hn', hD', hJ'⟩
      have hCwr : s₂.heap.objs.size + 1 ∉ wr := fun q => hCf (W.sub _ q)
      have hDwr : s₂.heap.objs.size ∉ wr := fun q => hDf (W.sub _ q)
      by_cases hlt : i < n
      · refine W.item i _ _ _ hlt hst' fun v h₂ tk₂ hPv hst₂ hk₂ => ?_
        refine wpAny_assign_Name (wpAny_storeName_local (lookup_relabel_local hx) (hn'.at' fun o e => hk₂ _ o hCwr e) (fun h₃ hn₃ hs₃ => ?_) (by simp [compEnvC, relabel, hkind]))
        have hst₃ : St (i + 1) h₃ := W.frame _ _ _ hst₂ fun b hb o e => hs₃.extBut b o (fun q => hCf (by have q' : b = s₂.heap.objs.size + 1 := q; rw [← q']; exact hb)) e
        have hD₃ : h₃.get? s₂.heap.objs.size = some (listOf ys.toArray ys.length) := hs₃.extBut _ _ hDC (hk₂ _ _ hDwr hD')
        have hsz3 : s₂.heap.objs.size ≤ h₃.objs.size := Nat.le_of_lt (Nat.lt_of_succ_lt hn₃.lt)
        have hJ₃ : J i ys h₃ := hJs _ _ _ _ hJ' (fun b o h1 h2 h3 e => hs₃.extBut b o h3 (hk₂ b o h1 e)) hsz3
        refine wpAny_mono (turn i v ys h₃ _ _ _ hlt hPv hJ₃ hn₃ (by simp)) (fun ok s₄ h₄ => ?_) fun _ _ e => e
        cases ok with
        | false =>
          obtain ⟨h₄, tk₄, rfl, hk₄, hJ₄⟩ := h₄
          exact ⟨n + 1 - (i + 1), by omega, h₄, tk₄, i + 1, ys, _, rfl, hlt, rfl, by omega, W.frame _ _ _ hst₃ fun b hb o e => hk₄ b (.tail _ (.tail _ hb)) o e, hn₃.at' fun o e => hk₄ _ (.tail _ (.head _)) o e, hk₄ _ (.head _) _ hD₃, hJ₄⟩
        | true =>
          refine wpAny_mono h₄ (fun y s₅ h₅ => ?_) fun _ _ e => e
          obtain ⟨h₅, tk₅, rfl, hk₅, hJ₅⟩ := h₅
          have hst₅ : St (i + 1) h₅ := W.frame _ _ _ hst₃ fun b hb o e => hk₅ b (.tail _ (.tail _ hb)) o e
          have hn₅ := hn₃.at' fun o e => hk₅ _ (.tail _ (.head _)) o e
          have hD₅ := hk₅ _ (.head _) _ hD₃
          refine append_at (hsz := by rw [List.size_toArray]; omega) hD₅ fun h₆ hs₆ hD₆ => ?_
          refine ⟨n + 1 - (i + 1), by omega, h₆, tk₅, i + 1, ys ++ [y], _, rfl, hlt, rfl, by rw [List.length_append]; simp; omega,
            W.frame _ _ _ hst₅ fun b hb o e => hs₆.extBut b o (fun q => hDf (q ▸ hb)) e, hn₅.sameBut hs₆ (Ne.symm hDC), ?_, hJs _ _ _ _ hJ₅ (fun b o _ h2 _ e => hs₆.extBut b o h2 e) (by have := hn₅.lt; have e := hs₆.1; rw [e]; exact Nat.le_of_lt (Nat.lt_of_succ_lt this))⟩
          rw [hD₆]
          simp [PySem.W.listOf]
      · obtain rfl : i = n := by omega
        refine W.done _ _ _ hst' fun h₂ tk₂ hk₂ => ?_
        exact hRR h₂ tk₂ _ ys (hn'.at' fun o e => hk₂ _ o hCwr e) (hk₂ _ _ hDwr hD') hyl (hJs _ _ _ _ hJ' (fun b o h1 _ _ e => hk₂ b o h1 e) (Nat.le_of_lt (Nat.lt_of_succ_lt (hn'.at' fun o e => hk₂ _ o hCwr e).lt)))
  exact codeAny_compStart_list (loop _ rfl) (W.self 0 _ _ _ hst₁ (loop _ rfl))
end
section
variable {prog : Program} {w : World} {A : Around} {E : Value → Shared → Prop} {env : Env}
set_option genInjectivity false in
set_option genSizeOf false in
/-- what a comprehension asks, once its iterator stands -/
structure CompJ (prog : Program) (w : World) (A : Around) (env : Env) (scope : Scope) (cl : List (Str × Addr)) (x : Str) (ifs : List Expr) (elt : Expr) (it : Value) (s₂ : Shared) (Fin : Heap → List Value → Nat → Prop) where
  I : Addr
  fp : List Addr
  wr : List Addr
  n : Nat
  P : Nat → Value → Prop
  St : Nat → Heap → Prop
  J : Nat → List Value → Heap → Prop
  eqI : it = .ref I
  W : Walks prog w A I fp wr n P St
  sz : n ≤ sizeLine
  st : St 0 s₂.heap
  lt : ∀ b ∈ fp, b < s₂.heap.objs.size
  J0 : J 0 [] s₂.heap
  Js : ∀ i ys h h', J i ys h → (∀ b o, b ∉ wr → b ≠ s₂.heap.objs.size → b ≠ s₂.heap.objs.size + 1 → h.get? b = some o → h'.get? b = some o) → s₂.heap.objs.size ≤ h'.objs.size → J i ys h'
  turn : ∀ i v ys h tk m₁ (E' : Value → Shared → Prop), i < n → P i v → J i ys h → h.Ns (s₂.heap.objs.size + 1) m₁ → m₁ x = some v →
      wpAny (model prog w) A (forIn ifs true fun c r => if r = true then do let ok ← isTrue c (compEnvC scope cl (s₂.heap.objs.size + 1) env) (eval c (compEnvC scope cl (s₂.heap.objs.size + 1) env)); pure (ForInStep.yield ok) else pure (ForInStep.yield r))
        (fun ok s₃ => if ok = true then wpAny (model prog w) A (eval elt (compEnvC scope cl (s₂.heap.objs.size + 1) env)) (fun y s₄ => TEnd (s₂.heap.objs.size :: (s₂.heap.objs.size + 1) :: fp) (J (i + 1) (ys ++ [y])) { s₂ with heap := h, toks := tk } s₄) E' s₃
          else TEnd (s₂.heap.objs.size :: (s₂.heap.objs.size + 1) :: fp) (J (i + 1) ys) { s₂ with heap := h, toks := tk } s₃) E' { s₂ with heap := h, toks := tk }
  fin : ∀ h ys, J n ys h → h.get? s₂.heap.objs.size = some (listOf ys.toArray ys.length) → ys.length ≤ n → s₂.heap.objs.size + 1 < h.objs.size → Fin h ys s₂.heap.objs.size
/-- a comprehension, its value handed on -/
theorem comp_eval {s : Shared} {elt iter : Expr} {x : Str} {px : Pos} {ifs : List Expr} {scope : Scope} {cl : List (Str × Addr)} {pos : Pos} {Q : Value → Shared → Prop}
    (hclos : closureFor scope env = pure cl) (hcell : ∀ y ∈ scope.names, y.2 ≠ .cell) (hkind : scope.kind = .function)
    (hnames : ∀ y ∈ scope.names, y.2 = .local → scope.names.lookup y.1 = some .local) (hx : scope.names.lookup x = some .local)
    (h : wpAny (model prog w) A (eval iter env) (fun xv s₁ => wpAny (model prog w) A (pyIter xv) (fun it s₂ =>
      ∃ _ : CompJ prog w A env scope cl x ifs elt it s₂ (fun h ys D => ∀ h' tk, (∀ b o, b ≠ D + 1 → h.get? b = some o → h'.get? b = some o) → h'.objs.size = h.objs.size → Q (.ref D) { s₂ with heap := h', toks := tk }), True) E s₁) E s)
    (hs : ∀ x, foldedSetIterable iter env x = pure x := by intro _; rfl) :
    wpAny (model prog w) A (eval (.ListComp elt [⟨.Name x px, iter, ifs, 0⟩] scope pos) env) Q E s := by
  rw [eval_ListComp]
  refine wpAny_comprehension_free (use := none) rfl hs hclos hkind hnames (wpAny_mono h (fun xv s₁ h₁ => wpAny_mono h₁ (fun it s₂ h₂ => ?_) fun _ _ e => e) fun _ _ e => e)
  obtain ⟨c, _⟩ := h₂
  obtain ⟨I, fp, wr, n, P, St, J, rfl, W, sz, st, lt, J0, Js, turn, fin⟩ := c
  refine comp_block_J (RR := fun acc C => compPost (model prog w) A E none Q acc C) J W sz hcell hkind hx st lt J0 Js turn ?_
  intro h tk m' ys hn hD hl hJ
  exact ⟨m', hn, fun h'' hs'' => fin h ys hJ hD hl hn.lt h'' tk (fun b o hb e => hs''.extBut b o hb e) hs''.1⟩
/-- a comprehension whose value is stored in a local of the def -/
theorem comp_store {s : Shared} {elt iter : Expr} {x y : Str} {px py : Pos} {ifs : List Expr} {scope : Scope} {cl : List (Str × Addr)} {pos spos : Pos} {Q : Flow → Shared → Prop}
    (hsw : swapsWith (.ListComp elt [⟨.Name x px, iter, ifs, 0⟩] scope pos) (some (.Name y py)) spos.line env = pure true)
    (hclos : closureFor scope env = pure cl) (hcell : ∀ y ∈ scope.names, y.2 ≠ .cell) (hkind : scope.kind = .function)
    (hnames : ∀ y ∈ scope.names, y.2 = .local → scope.names.lookup y.1 = some .local) (hx : scope.names.lookup x = some .local)
    (hy : env.kindOf y = some .local) (hp : (env.scope.kind == .class || (env.scope.kind == .module && env.locals != env.globals)) = false)
    (h : wpAny (model prog w) A (eval iter env) (fun xv s₁ => wpAny (model prog w) A (pyIter xv) (fun it s₂ =>
      ∃ _ : CompJ prog w A env scope cl x ifs elt it s₂ (fun h ys D => ∃ m, h.Ns env.locals m ∧ env.locals < D ∧ ∀ h' tk, h'.Ns env.locals (fun z => if z = y then some (.ref D) else m z) →
        (∀ b o, b ≠ D + 1 → b ≠ env.locals → h.get? b = some o → h'.get? b = some o) → h'.objs.size = h.objs.size → Q .next { s₂ with heap := h', toks := tk }), True) E s₁) E s)
    (hs : ∀ x, foldedSetIterable iter env x = pure x := by intro _; rfl) :
    wpAny (model prog w) A (exec (.Assign [.Name y py] (.ListComp elt [⟨.Name x px, iter, ifs, 0⟩] scope pos) spos) env) Q E s := by
  rw [exec_Assign_Name_used _ _ _ _ hsw]
  refine wpAny_bind (wpAny_standAt (wpAny_bind ?_))
  show wpAny _ A (do let _ ← comprehension (.ListComp elt [⟨.Name x px, iter, ifs, 0⟩] scope pos) scope env _ (newList []) false (eval iter env) (some (assign (.Name y py) env))) _ _ s
  refine wpAny_bind (wpAny_mono (wpAny_comprehension_free (use := some (assign (.Name y py) env)) (Q := fun _ s' => Q .next s') rfl hs hclos hkind hnames
    (wpAny_mono h (fun xv s₁ h₁ => wpAny_mono h₁ (fun it s₂ h₂ => ?_) fun _ _ e => e) fun _ _ e => e)) (fun _ s' hq => wpAny_pure (wpAny_pure hq)) fun _ _ e => e)
  obtain ⟨c, _⟩ := h₂
  obtain ⟨I, fp, wr, n, P, St, J, rfl, W, sz, st, lt, J0, Js, turn, fin⟩ := c
  refine comp_block_J (RR := fun acc C => compPost (model prog w) A E (some (assign (.Name y py) env)) (fun _ s' => Q .next s') acc C) J W sz hcell hkind hx st lt J0 Js turn ?_
  intro h tk m' ys hn hD hl hJ
  obtain ⟨m, hm, hlt, hQ⟩ := fin h ys hJ hD hl hn.lt
  show wpAny _ A (assign (.Name y py) env (.ref s₂.heap.objs.size)) _ _ _
  refine wpAny_assign_Name (wpAny_storeName_local hy hm (fun h₂ hn₂ hs₂ => ?_) hp)
  have hLC : env.locals ≠ s₂.heap.objs.size + 1 := Nat.ne_of_lt (Nat.lt_succ_of_lt hlt)
  refine ⟨m', hn.sameBut hs₂ (Ne.symm hLC), fun h₃ hs₃ => ?_⟩
  exact hQ h₃ _ (hn₂.sameBut hs₃ hLC) (fun b o h1 h2 e => hs₃.extBut b o h1 (hs₂.extBut b o h2 e)) (hs₃.1.trans hs₂.1)
end
end
section
theorem fresh_Ct : True := by w_top off; trivial
theorem txts_push {l : List (Str × Tok)} {y : Str} {t : Tok} {e : Nat} : listOf ((strValues l).toArray.push (.str y t)) e = txts (l ++ [(y, t)]) e := by simp [txts, strValues]
theorem news_new {h₀ h h' : Heap} {L D : Addr} {m : Str → Option Value} {o : Obj} {news : List (Addr × Obj)} (F : Fr h₀ L h m) (hD0 : h.get? D = none) (hD : h'.get? D = some o) (N : News h₀ L h' news) : News h₀ L h' ((D, o) :: news) := by
  refine news_cons hD (fun q => ?_) ?_ N
  · obtain ⟨o', _, _, ho, _⟩ := F.ns
    rw [q, ho] at hD0; cases hD0
  · cases q : h₀.get? D with
    | none => rfl
    | some o' => have := F.keep _ _ q; rw [hD0] at this; cases this
theorem Under.none {bs : List (Addr × Obj)} {s : Shared} {g : Heap} {L c : Addr} (U : Under bs s g L) (hc : c ∉ adr bs) (h : g.get? c = none) : s.heap.get? c = none := by
  cases q : s.heap.get? c with
  | none => rfl
  | some o => have := U.up c o hc q; rw [h] at this; cases this
theorem filter_txt (p : Str → Bool) (q : List Nat → Bool) (h : ∀ l, p (txt l) = q l) : ∀ ls : List (List Nat), (ls.map txt).filter p = (ls.filter q).map txt
  | [] => rfl
  | l :: ls => by
    simp only [List.map_cons, List.filter_cons, h, filter_txt p q h ls]
    split <;> rfl
theorem news_none {h₀ h : Heap} {L : Addr} : News h₀ L h [] := fun _ h => (nomatch h)
theorem strValues_get {l : List (Str × Tok)} {i : Nat} {v : Value} (h : (strValues l).toArray[i]? = some v) : ∃ y t, v = .str y t ∧ l[i]? = some (y, t) := by
  simp only [strValues, List.getElem?_toArray, List.getElem?_map, Option.map_eq_some_iff] at h
  obtain ⟨⟨y, t⟩, h1, rfl⟩ := h
  exact ⟨y, t, rfl, h1⟩
section
variable {prog : Program} {w : World} {A : Around} {E : Value → Shared → Prop} {env : Env}
/-- what a comprehension over a list of texts asks of its block -/
structure TxtBlock (prog : Program) (w : World) (A : Around) (env : Env) (scope : Scope) (cl : List (Str × Addr)) (x : Str) (ifs : List Expr) (elt : Expr) (p : Str → Bool) (G : Str → Str) (ys : List Str) (h₁ : Heap) : Prop where
  tests : ∀ C s₃ m₃ (E' : Value → Shared → Prop) y t, y ∈ ys → Grew [] h₁ s₃.heap → s₃.heap.Ns C m₃ → m₃ x = some (.str y t) →
    wpAny (model prog w) A (forIn ifs true fun c r => if r = true then do let ok ← isTrue c (compEnvC scope cl C env) (eval c (compEnvC scope cl C env)); pure (ForInStep.yield ok) else pure (ForInStep.yield r))
      (fun ok s₄ => ok = p y ∧ Keeps s₃ s₄) E' s₃
  elt : ∀ C s₃ m₃ (E' : Value → Shared → Prop) y t, y ∈ ys → p y = true → Grew [] h₁ s₃.heap → s₃.heap.Ns C m₃ → m₃ x = some (.str y t) →
    wpAny (model prog w) A (eval elt (compEnvC scope cl C env)) (fun v s₄ => (∃ t', v = .str (G y) t') ∧ Keeps s₃ s₄) E' s₃
theorem comp_texts {s : Shared} {elt iter : Expr} {x : Str} {px : Pos} {ifs : List Expr} {scope : Scope} {cl : List (Str × Addr)} {pos : Pos} {Q : Value → Shared → Prop} (p : Str → Bool) (G : Str → Str)
    (hh : A.handled = none) (hclos : closureFor scope env = pure cl) (hcell : ∀ y ∈ scope.names, y.2 ≠ .cell) (hkind : scope.kind = .function)
    (hnames : ∀ y ∈ scope.names, y.2 = .local → scope.names.lookup y.1 = some .local) (hx : scope.names.lookup x = some .local)
    (h : wpAny (model prog w) A (eval iter env) (fun xv s₁ => ∃ ax l e, xv = .ref ax ∧ s₁.heap.get? ax = some (txts l e) ∧ l.length ≤ 100000 ∧ TxtBlock prog w A env scope cl x ifs elt p G (l.map (·.1)) s₁.heap ∧
      ∀ D h' tk l' e', h'.get? D = some (txts l' e') → s₁.heap.get? D = none → l'.map (·.1) = ((l.map (·.1)).filter p).map G → Grew [] s₁.heap h' → Q (.ref D) { s₁ with heap := h', toks := tk }) E s)
    (hs : ∀ x, foldedSetIterable iter env x = pure x := by intro _; rfl) :
    wpAny (model prog w) A (eval (.ListComp elt [⟨.Name x px, iter, ifs, 0⟩] scope pos) env) Q E s := by
  refine comp_eval hclos hcell hkind hnames hx (wpAny_mono h (fun xv s₁ h₁ => ?_) fun _ _ e => e) hs
  obtain ⟨ax, l, e, rfl, hax, hl, B, hQ⟩ := h₁
  have hlist : s₁.heap.IsList ax (strValues l).toArray := ⟨_, hax, rfl, _, rfl⟩
  have hlt := Heap.lt_size hax
  refine wpAny_pyIter_list hlist ?_
  have W := Walks.list (prog := prog) (w := w) hh s₁.heap.objs.size ax (Nat.ne_of_lt hlt) (strValues l).toArray
  have hsz : (s₁.heap.push { cls := .type "list_iterator", data := .fields #[.ref ax, .int 0 0] }).objs.size = s₁.heap.objs.size + 1 := Heap.size_push _ _
  generalize hH : s₁.heap.push { cls := .type "list_iterator", data := .fields #[.ref ax, .int 0 0] } = H at hsz ⊢
  have old : ∀ b o, s₁.heap.get? b = some o → H.get? b = some o := fun b o e => hH ▸ Heap.get?_push_of_some _ e
  have hn : (strValues l).toArray.size = l.length := by simp [strValues]
  refine ⟨{
      I := s₁.heap.objs.size
      fp := [s₁.heap.objs.size, ax]
      wr := [s₁.heap.objs.size]
      n := l.length
      P := fun i v => (strValues l).toArray[i]? = some v
      St := _
      J := fun i ys h => Grew [] s₁.heap h ∧ ∃ l' : List (Str × Tok), ys = strValues l' ∧ l'.map (·.1) = (((l.take i).map (·.1)).filter p).map G
      eqI := rfl
      W := hn ▸ W
      sz := by rw [sizeLine_eq]; omega
      st := ⟨⟨_, hH ▸ Heap.get?_push_size _ rfl, rfl, rfl⟩, hlist.at fun o e => old _ o e⟩
      lt := ?_
      J0 := ⟨⟨fun b o _ e => old b o e, by rw [hsz]; exact Nat.le_succ _⟩, [], rfl, rfl⟩
      Js := ?_
      turn := ?_
      fin := ?_ }, trivial⟩
  · intro b hb
    rw [hsz]
    rcases List.mem_cons.mp hb with rfl | hb
    · exact Nat.lt_succ_self _
    · rw [List.mem_singleton.mp hb]; exact Nat.lt_succ_of_lt hlt
  · rintro i ys h h' ⟨G1, r⟩ hk hs'
    refine ⟨⟨fun b o hb e => ?_, by have : H.objs.size ≤ h'.objs.size := hs'; omega⟩, r⟩
    have lb := Heap.lt_size e
    refine hk b o ?_ ?_ ?_ (G1.keep b o hb e)
    · intro q; rw [List.mem_singleton.mp q] at lb; exact Nat.lt_irrefl _ lb
    · show b ≠ H.objs.size; rw [hsz]; exact Nat.ne_of_lt (Nat.lt_succ_of_lt lb)
    · show b ≠ H.objs.size + 1; rw [hsz]; exact Nat.ne_of_lt (Nat.lt_succ_of_lt (Nat.lt_succ_of_lt lb))
  · rintro i v ys h tk m₁ E' hi hP ⟨G1, l', rfl, e'⟩ hn₁ hm₁
    obtain ⟨y, t, rfl, hy⟩ := strValues_get hP
    have hmem : y ∈ l.map (·.1) := List.mem_map.mpr ⟨(y, t), List.mem_of_getElem? hy, rfl⟩
    have htake : (l.take (i + 1)).map (·.1) = (l.take i).map (·.1) ++ [y] := by
      rw [List.take_add_one, hy]; simp
    refine wpAny_mono (B.tests _ _ m₁ E' y t hmem G1 hn₁ hm₁) (fun ok s₃ h₃ => ?_) fun _ _ e => e
    obtain ⟨rfl, h3, tk3, rfl, hk3⟩ := h₃
    have sz3 : h.objs.size ≤ h3.objs.size ∨ True := .inr trivial
    have G3 : Grew [] s₁.heap h3 := by
      refine ⟨fun b o hb e => hk3 b o (G1.keep b o hb e), ?_⟩
      have := (hn₁.at' (h' := h3) fun o e => hk3 _ o e).lt
      have e1 : H.objs.size + 1 < h3.objs.size := this
      omega
    cases hp : p y with
    | false =>
      simp only [Bool.false_eq_true, if_false]
      exact TEnd.intro (fun b _ o e => hk3 b o e) ⟨G3, l', rfl, by rw [htake, List.filter_append, List.map_append, e']; simp [hp]⟩
    | true =>
      simp only [if_true]
      refine wpAny_mono (B.elt _ _ m₁ E' y t hmem hp G3 (hn₁.at' fun o e => hk3 _ o e) hm₁) (fun v s₄ h₄ => ?_) fun _ _ e => e
      obtain ⟨⟨t', rfl⟩, h4, tk4, rfl, hk4⟩ := h₄
      refine TEnd.intro (fun b _ o e => hk4 b o (hk3 b o e)) ⟨⟨fun b o hb e => hk4 b o (G3.keep b o hb e), ?_⟩, l' ++ [(G y, t')], ?_, ?_⟩
      · have := (hn₁.at' (h' := h4) fun o e => hk4 _ o (hk3 _ o e)).lt
        have e1 : H.objs.size + 1 < h4.objs.size := this
        omega
      · simp [strValues]
      · rw [htake, List.filter_append, List.map_append, List.map_append, e']; simp [hp]
  · rintro h ys ⟨G1, l', rfl, e'⟩ hD _ hs' h' tk hk hsz'
    rw [List.take_of_length_le (Nat.le_refl _)] at e'
    have hDs : H.objs.size ≠ H.objs.size + 1 := Nat.ne_of_lt (Nat.lt_succ_self _)
    refine hQ _ h' tk l' _ (hk _ _ hDs hD) ?_ e' ⟨fun b o hb e => hk b o ?_ (G1.keep b o hb e), ?_⟩
    · cases q : s₁.heap.get? H.objs.size with
      | none => rfl
      | some o => have := Heap.lt_size q; rw [hsz] at this; exact absurd (Nat.lt_of_succ_lt this) (Nat.lt_irrefl _)
    · have lb := Heap.lt_size e
      show b ≠ H.objs.size + 1
      rw [hsz]; exact Nat.ne_of_lt (Nat.lt_succ_of_lt (Nat.lt_succ_of_lt lb))
    · rw [hsz']; exact G1.size
end
theorem ne_txt (l : List Nat) : (txt l != txt []) = (l != []) := by
  rw [Bool.eq_iff_iff, bne_iff_ne, bne_iff_ne]
  exact ⟨fun h q => h (q ▸ rfl), fun h q => h (txt_inj q)⟩
end
section
theorem fresh_T3 : True := by w_top off; trivial
/-- a line end's sign before it cut -/
noncomputable def chop (l : List Nat) : List Nat := if l.getLast? = some 13 then l.dropLast else l
noncomputable def lsGo : List Nat → List Nat → List (List Nat)
  | [], line => [line]
  | c :: r, line => if c = 10 then chop line :: lsGo r [] else lsGo r (line ++ [c])
/-- the lines of a text, and an empty one -/
noncomputable def lines (x : List Nat) : List (List Nat) := (lsGo x []).filter (fun l => l != []) ++ [[]]
noncomputable def LnJ (x : Str) (t : Tok) : Nat → (Str → Option Value) → List (Addr × Obj) → Prop := fun n m news =>
  m (Str.ofString "told") = some (.str x t) ∧ ∃ (fa : Addr) (tl : Tok) (l : List (Str × Tok)) (e : Nat) (ly : Str) (line : List Nat) (found : List (List Nat)),
    m (Str.ofString "found") = some (.ref fa) ∧ m (Str.ofString "line") = some (.str ly tl) ∧ ly = txt line ∧
    news = [(fa, txts l e)] ∧ l.map (·.1) = found.map txt ∧ line.length ≤ n ∧ found.length ≤ n ∧ found ++ lsGo ((cps x).drop n) line = lsGo (cps x) []
set_option maxHeartbeats 8000000 in
theorem lines_spec {w : World} {mean : ExcName → Option Value} {mg mb : Str → Option Value} {h₀ : Heap} {s : Shared} {A : Around} {Q E : Value → Shared → Prop}
  {x : Str} {t : Tok}
  (S : Sits w mean mg mb h₀ s.heap) (hx : x.length ≤ 90000) (hd : A.depth + 1 < recursionLimit) (hu : A.units + 8 < cLine) (hA : A.handled = none)
  (hret : ∀ v h' tk', (∃ a l e, v = .ref a ∧ h'.get? a = some (txts l e) ∧ s.heap.get? a = none ∧ l.map (·.1) = (lines (cps x)).map txt) → Grew [] s.heap h' → Q v { s with heap := h', toks := tk' }) :
  wpAny (model PySem.Challenge.pw_be0022_01 w) A (call (.ref 511) [.str x t]) Q E s := by
  (have Dz := dum; revert Dz; k_fill; intro Dz; clear Dz)
  refine wpAny_call ?_
  (k_dflt (refine' enter _ ?k1 ?kb ?k6 ?k7 ?k8 ?k9 ?kl ?_ ?c2 ?c3 ?c4 ?c5; (case k1 => k_asm); (case kb => first | assumption | exact List.forall_mem_nil _); (case k6 => k_is); (case k7 => k_is); (case k8 => omega); (case k9 => first | exact BindsTo.of_eq rfl | (refine' binds_K (K := Mine.hd.heap_1 _) (Frag.In.keeps (Sits.X (by assumption)) (Sits.keep (by assumption))) rfl ?kd ?kr1 ?kr2 ?kr3; (case kd => k_is); (case kr1 => exact rfl); (case kr2 => exact rfl); (case kr3 => exact rfl))); (case c2 => decide); (case kl => exact locs rfl); (case c3 => exact rfl); (case c4 => exact rfl); (case c5 => exact rfl); k_whole); intro _ _ _ _ _ _ _ _; (try dsimp only); (try k_fold))
  (repeat' (first | (k_unfold; (try dsimp only)) | ((fail_if_success with_reducible (first | refine st0 ?_ | refine st1 ?_ | refine st2 ?_ | refine st3 ?_ | refine st4 ?_ | refine st5 ?_ | refine st6 ?_ | refine st7 ?_ | refine st8 ?_)); walk1) | (dsimp only; (fail_if_success with_reducible (first | refine st0 ?_ | refine st1 ?_ | refine st2 ?_ | refine st3 ?_ | refine st4 ?_ | refine st5 ?_ | refine st6 ?_ | refine st7 ?_ | refine st8 ?_)); walk1) | (leave1; (try dsimp only)) | dsimp only | fail "no step"))
  rename Fr _ _ _ _ => F1
  refine' For_invVF F1 rfl rfl ?_
  (repeat' (first | (k_unfold; (try dsimp only)) | ((fail_if_success with_reducible (first | refine st0 ?_ | refine st1 ?_ | refine st2 ?_ | refine st3 ?_ | refine st4 ?_ | refine st5 ?_ | refine st6 ?_ | refine st7 ?_ | refine st8 ?_)); walk1) | (dsimp only; (fail_if_success with_reducible (first | refine st0 ?_ | refine st1 ?_ | refine st2 ?_ | refine st3 ?_ | refine st4 ?_ | refine st5 ?_ | refine st6 ?_ | refine st7 ?_ | refine st8 ?_)); walk1) | (leave1; (try dsimp only)) | dsimp only | fail "no step"))
  rename Fr _ _ _ _ => F1
  rename News _ _ _ _ => N1
  refine' iter_text (LnJ x t) hA F1 N1 ?j0 ?turn ?done
  case j0 => exact ⟨rfl, _, _, [], _, _, [], [], rfl, rfl, rfl, rfl, rfl, Nat.le_refl _, Nat.le_refl _, by simp⟩
  case turn =>
    rintro i c tc m₁ news₁ h₁ tk₁ own hc hadr hoff ⟨e1, fa, tl, l, e, ly, line, found, e2, e3, rfl, rfl, e4, e5, e6, e7⟩ F2 N2
    clear F1 N1
    obtain rfl := (List.cons.inj hadr).1
    simp only [List.map_cons, List.map_nil] at hoff
    have hi : i < x.length := (Array.getElem?_eq_some_iff.mp hc).1
    rw [← if_at3 e1 e2 e3] at F2
    dsimp only at F2
    have hsz : (strValues l).length ≤ 1048576 := by have := congrArg List.length e4; simp only [List.length_map] at this; simp only [strValues, List.length_map]; omega
    have hll : (txt line).length ≤ 100000 := by rw [str_len_txt]; omega
    simp only [List.cons_append, List.nil_append] at N2
    try k_fold
    (repeat' (first | (k_unfold; (try dsimp only)) | ((fail_if_success with_reducible (first | refine st0 ?_ | refine st1 ?_ | refine st2 ?_ | refine st3 ?_ | refine st4 ?_ | refine st5 ?_ | refine st6 ?_ | refine st7 ?_ | refine st8 ?_)); walk1) | (dsimp only; (fail_if_success with_reducible (first | refine st0 ?_ | refine st1 ?_ | refine st2 ?_ | refine st3 ?_ | refine st4 ?_ | refine st5 ?_ | refine st6 ?_ | refine st7 ?_ | refine st8 ?_)); walk1) | (leave1; (try dsimp only)) | dsimp only | fail "no step"))
    · rename (_ == Str.ofString "\n") = true => f1
      rename (_ == Str.ofString "\x0d") = true => f2
      rename News _ _ _ _ => N9
      rw [txts_push] at N9
      obtain rfl := sign_nl f1
      rw [drop_at hc, lsGo, if_pos rfl, chop, if_pos (slice_m1_t f2)] at e7
      refine' end_one (by assumption) N9 ⟨rfl, _, _, _, _, _, [], found ++ [line.dropLast], rfl, rfl, rfl, rfl, ?_, Nat.zero_le _, ?_, ?_⟩
      · rw [List.map_append, List.map_append, e4, slice_m1_to]; rfl
      · rw [List.length_append]; simp; omega
      · rw [← e7, List.append_assoc]; rfl
    · rename (_ == Str.ofString "\n") = true => f1
      rename (_ == Str.ofString "\x0d") = false => f2
      rename News _ _ _ _ => N9
      rw [txts_push] at N9
      obtain rfl := sign_nl f1
      rw [drop_at hc, lsGo, if_pos rfl, chop, if_neg (slice_m1_f f2)] at e7
      refine' end_one (by assumption) N9 ⟨rfl, _, _, _, _, _, [], found ++ [line], rfl, rfl, rfl, rfl, ?_, Nat.zero_le _, ?_, ?_⟩
      · rw [List.map_append, List.map_append, e4]; rfl
      · rw [List.length_append]; simp; omega
      · rw [← e7, List.append_assoc]; rfl
    · rename (_ == Str.ofString "\n") = false => f1
      rename News _ _ _ _ => N9
      rw [drop_at hc, lsGo, if_neg (sign_nlf f1)] at e7
      refine' end_one (by assumption) N9 ⟨rfl, _, _, _, _, _, line ++ [c], found, rfl, rfl, txt_append line [c], rfl, e4, ?_, by omega, e7⟩
      · rw [List.length_append]; simp; omega
  case done =>
    clear F1 N1
    rintro m₁ news₁ h₁ tk₁ ⟨e1, fa, tl, l, e, ly, line, found, e2, e3, rfl, rfl, e4, e5, e6, e7⟩ F2 N2
    replace F2 := fr_at3 F2 e1 e2 e3
    have hsz : (strValues l).length ≤ 1048576 := by have := congrArg List.length e4; simp only [List.length_map] at this; simp only [strValues, List.length_map]; omega
    try k_fold
    (repeat' (first | (k_unfold; (try dsimp only)) | ((fail_if_success with_reducible (first | refine st0 ?_ | refine st1 ?_ | refine st2 ?_ | refine st3 ?_ | refine st4 ?_ | refine st5 ?_ | refine st6 ?_ | refine st7 ?_ | refine st8 ?_)); walk1) | (dsimp only; (fail_if_success with_reducible (first | refine st0 ?_ | refine st1 ?_ | refine st2 ?_ | refine st3 ?_ | refine st4 ?_ | refine st5 ?_ | refine st6 ?_ | refine st7 ?_ | refine st8 ?_)); walk1) | (leave1; (try dsimp only)) | dsimp only | fail "no step"))
    rename Fr _ _ _ _ => F3
    rename News _ _ _ _ => N3
    have N4 := N3.get (.head _)
    rw [txts_push] at N4
    refine' comp_texts (cl := []) (fun y => y != txt []) (fun y => y) hA rfl (by decide) rfl (by decide) rfl ?_
    walk1
    refine ⟨_, _, _, rfl, N4, ?_, ⟨?_, ?_⟩, ?_⟩
    · have := congrArg List.length e4; simp only [List.length_map] at this; rw [List.length_append]; simp; omega
    · intro C s₃ m₃ E' y ty _ G3 hn hm
      refine wpAny_tests_one (wpAny_isTrue_Compare1 (wpAny_Name (wpAny_loadName_local rfl rfl hn hm ?_) (by decide)))
      (repeat' (first | (k_unfold; (try dsimp only)) | ((fail_if_success with_reducible (first | refine st0 ?_ | refine st1 ?_ | refine st2 ?_ | refine st3 ?_ | refine st4 ?_ | refine st5 ?_ | refine st6 ?_ | refine st7 ?_ | refine st8 ?_)); walk1) | (dsimp only; (fail_if_success with_reducible (first | refine st0 ?_ | refine st1 ?_ | refine st2 ?_ | refine st3 ?_ | refine st4 ?_ | refine st5 ?_ | refine st6 ?_ | refine st7 ?_ | refine st8 ?_)); walk1) | (leave1; (try dsimp only)) | dsimp only | fail "no step"))
      · exact ⟨_, _, rfl, fun _ _ e => e⟩
    · intro C s₃ m₃ E' y ty _ hp G3 hn hm
      refine wpAny_Name (wpAny_loadName_local rfl rfl hn hm ?_) (by decide)
      exact ⟨⟨_, rfl⟩, _, _, rfl, fun _ _ e => e⟩
    · intro D h' tk' l' e' hD hD0 hl' G4
      have F5 := fr_nil F3 G4
      have N5 := news_new F3 hD0 hD news_none
      (repeat' (first | (k_unfold; (try dsimp only)) | ((fail_if_success with_reducible (first | refine st0 ?_ | refine st1 ?_ | refine st2 ?_ | refine st3 ?_ | refine st4 ?_ | refine st5 ?_ | refine st6 ?_ | refine st7 ?_ | refine st8 ?_)); walk1) | (dsimp only; (fail_if_success with_reducible (first | refine st0 ?_ | refine st1 ?_ | refine st2 ?_ | refine st3 ?_ | refine st4 ?_ | refine st5 ?_ | refine st6 ?_ | refine st7 ?_ | refine st8 ?_)); walk1) | (leave1; (try dsimp only)) | dsimp only | fail "no step"))
      rename Fr _ _ _ _ => F6
      rename News _ _ _ _ => N6
      have hlen : l'.length ≤ 90001 := by
        have h1 := congrArg List.length hl'
        have h2 := congrArg List.length e4
        simp only [List.length_map] at h1 h2
        have h3 := List.length_filter_le (fun y => y != txt []) ((l ++ [(txt line, tl)]).map (·.1))
        simp only [List.length_map, List.length_append, List.length_cons, List.length_nil] at h3
        omega
      refine add_lists (vs := strValues l') F6 N6 (N6.isList (.tail _ (.head _))) (N6.isList (.head _)) ?_ (by rw [sizeLine_eq]; simp [strValues]; omega)
      intro h9 F9 N9
      k_unfold
      dsimp only
      refine hret _ _ _ ⟨_, l' ++ [(Str.ofString "", _)], 0, rfl, (N9.get (.head _)).trans (by simp [txts, strValues]; rfl), ?_, ?_⟩ (by (with_reducible rename Under _ _ _ _ => U9); exact U9.grew F9)
      · (with_reducible rename Under _ _ _ _ => U9); exact U9.none (fun h => (nomatch h)) (N9.fresh (.head _))
      · have e8 : lsGo (cps x) [] = found ++ [line] := by rw [← e7, List.drop_eq_nil_of_le (by rw [len_cps]; exact Nat.le_refl _)]; rfl
        rw [List.map_append, hl', List.map_append, e4, lines, e8, ofs_empty, List.map_append]
        have := filter_txt (fun y => y != txt []) (fun l => l != []) (fun l => ne_txt l) (found ++ [line])
        rw [List.map_append] at this
        simp only [List.map_cons, List.map_nil, List.map_id'] at this ⊢
        rw [this]
end
section
theorem fresh_Lg : True := by w_top off; trivial
section
variable {prog : Program} {w : World} {A : Around} {E : Value → Shared → Prop} {s : Shared} {env : Env} {h₀ : Heap} {x : Str} {body : List Stmt} {Q : Flow → Shared → Prop}
/-- for c in a text; the ledger's addresses may change from turn to turn -/
theorem iter_textG {x' : Str} {t : Tok} {m₀ : Str → Option Value} {news : List (Addr × Obj)} (J : Nat → (Str → Option Value) → List (Addr × Obj) → Prop) (hh : A.handled = none)
    (F : Fr h₀ env.locals s.heap m₀) (N : News h₀ env.locals s.heap news) (hj : J 0 m₀ news)
    (turn : ∀ i c t m₁ nx h tk own, x'.cps[i]? = some c → OwnOff own (nx.map (·.1)) → J i m₁ nx → Fr h₀ env.locals h (fun y => if y = x then some (.str ⟨#[c]⟩ t) else m₁ y) → News h₀ env.locals h (nx ++ own) →
      wpAny (model prog w) A (execs body env) (InvPostG h₀ env.locals (J (i + 1)) own { s with heap := h, toks := tk } Q) E { s with heap := h, toks := tk })
    (done : ∀ m₁ nx h tk, J x'.length m₁ nx → Fr h₀ env.locals h m₁ → News h₀ env.locals h nx → Q .next { s with heap := h, toks := tk }) :
    wpAny (model prog w) A (pyIter (.str x' t)) (fun it s₂ => LoopAtV prog w A h₀ env x body Q E it s₂) E s := by
  have key : ∀ (cls : String), Walks prog w A s.heap.objs.size [s.heap.objs.size] [s.heap.objs.size] x'.cps.size (SignAt x') (fun i h => h.IsStrIter s.heap.objs.size cls x' t i) →
      LoopAtV prog w A h₀ env x body Q E (.ref s.heap.objs.size) { s with heap := s.heap.push { cls := .type cls, data := .fields #[.str x' t, .int 0 0] } } := by
    intro cls W
    refine kdr_loop (s := { s with heap := s.heap.push _ }) J W (fun _ h => h) (fun _ h => h) ?_ ?_ ?_ ?_ ⟨_, Heap.get?_push_size _ rfl, rfl, rfl⟩ (F.push _) (fun p hp => ⟨Heap.get?_push_of_some _ (N p hp).1, (N p hp).2⟩) hj ?_ ?_
    · intro i h hi b hb
      rw [List.mem_singleton.mp hb]
      obtain ⟨o, ho, _⟩ := hi
      exact ⟨o, ho⟩
    · intro hm
      exact absurd F.ns.lt ((List.mem_singleton.mp hm) ▸ Nat.lt_irrefl _)
    · intro b hb
      rw [List.mem_singleton.mp hb]
      exact next_is_new F
    · intro p hp hI
      exact absurd (Heap.lt_size (N p hp).1) ((List.mem_singleton.mp hI) ▸ Nat.lt_irrefl _)
    · rintro i v m₁ nx h tk own hi ⟨c, u, hc, rfl⟩ hoff hJ F₁ N₁
      exact turn i c u m₁ nx h tk own hc hoff hJ F₁ N₁
    · intro m₁ nx h tk hJ F₁ N₁
      exact done m₁ nx h tk hJ F₁ N₁
  refine wpAny_pyIter_strU ?_
  unfold strIterType
  split
  · exact key _ (Walks.strAscii hh _ _ _)
  · exact key _ (Walks.strWide hh _ _ _)
end
section
variable {prog : Program} {w : World} {A : Around} {E : Value → Shared → Prop} {s : Shared} {env : Env} {h₀ : Heap} {x : Str} {body : List Stmt} {Q : Flow → Shared → Prop}
/-- objects of the iterator are no lists -/
noncomputable def NoList (own : List (Addr × Obj)) : Prop := ∀ p ∈ own, p.2.cls ≠ .type "list"
theorem own_off {L : Addr} {h : Heap} {own news nx : List (Addr × Obj)} (N : News h₀ L h news) (hl : NoList own) (ho : ∀ p ∈ own, p ∈ news) (hn : ∀ q ∈ nx, q ∈ news ∧ q.2.cls = .type "list") : OwnOff own (nx.map (·.1)) := by
  intro p hp b hb e
  obtain ⟨q, hq, rfl⟩ := List.mem_map.mp hb
  obtain ⟨q1, q2⟩ := hn q hq
  have a := (N p (ho p hp)).1
  have b := (N q q1).1
  rw [e, b] at a
  exact hl p hp ((Option.some.inj a) ▸ q2)
theorem loop_own {I : Addr} {n : Nat} {P : Nat → Value → Prop} {St : Nat → Heap → Prop} {m₀ : Str → Option Value} {news : List (Addr × Obj)} (J : Nat → (Str → Option Value) → List (Addr × Obj) → Prop)
    (W : Walks prog w A I [I] [I] n P St) (hob : ∀ i h, St i h → ∃ o, h.get? I = some o ∧ o.cls ≠ .type "list") (hLf : env.locals ≠ I) (hwr : h₀.get? I = none) (hnw : ∀ p ∈ news, p.1 ≠ I) (hst : St 0 s.heap)
    (F : Fr h₀ env.locals s.heap m₀) (N : News h₀ env.locals s.heap news) (hj : J 0 m₀ news)
    (turn : ∀ i v m₁ nx h tk own, i < n → P i v → NoList own → OwnOff own (nx.map (·.1)) → J i m₁ nx → Fr h₀ env.locals h (fun y => if y = x then some v else m₁ y) → News h₀ env.locals h (nx ++ own) →
      wpAny (model prog w) A (execs body env) (InvPostG h₀ env.locals (J (i + 1)) own { s with heap := h, toks := tk } Q) E { s with heap := h, toks := tk })
    (done : ∀ m₁ nx h tk, J n m₁ nx → Fr h₀ env.locals h m₁ → News h₀ env.locals h nx → Q .next { s with heap := h, toks := tk }) :
    LoopAtV prog w A h₀ env x body Q E (.ref I) s := by
  refine ⟨I, [I], [I], n, P, St, m₀, news, J, rfl, W, fun q => hLf (List.mem_singleton.mp q), fun b hb => List.mem_singleton.mp hb ▸ hwr, fun p hp q => hnw p hp (List.mem_singleton.mp q), hst, F, N, hj, ?_, ?_⟩
  · rintro i v m₁ news₁ s₁ own ⟨hh', tk', rfl⟩ hin hP hJ hoff hown hown2 hmem hst' F₁ N₁
    obtain ⟨oI, hoI, hcI⟩ := hob _ _ hst'
    have hno : NoList own := by
      intro p hp
      have e := List.mem_singleton.mp (hown p hp)
      have := hown2 p hp
      rw [e, hoI] at this
      exact (Option.some.inj this) ▸ hcI
    have hsep : OwnOff own (news₁.map (·.1)) := by
      intro p hp b hb e
      obtain ⟨q, hq, rfl⟩ := List.mem_map.mp hb
      exact hoff q hq (e ▸ hown p hp)
    have N₂ : News h₀ env.locals hh' (news₁ ++ own) := fun p hp => N₁ p ((List.mem_append.mp hp).elim (fun h => List.mem_append.mpr (.inr h)) fun h => List.mem_append.mpr (.inl h))
    refine wpAny_mono (turn i v m₁ news₁ hh' tk' own hin hP hno hsep hJ F₁ N₂) (fun f s₂ p => ?_) fun _ _ e => e
    have fin : InvEndG h₀ env.locals (J (i + 1)) own { s with heap := hh', toks := tk' } s₂ → LoopStepU h₀ env.locals [I] own (J (i + 1)) { s with heap := hh', toks := tk' } .next s₂ := by
      rintro ⟨h', tk, m', news', nx, e, F', N', hn, ho, ha, hm⟩
      refine ⟨rfl, h', tk, m', nx, e, F', fun p hp => N' p ((List.mem_append.mp hp).elim (ho p) (hn p)), fun p hp hq => ?_, hm⟩
      have hq := List.mem_singleton.mp hq
      exact ha _ (hmem I (.head _) hwr oI hoI) p.1 (List.mem_map.mpr ⟨p, hp, rfl⟩) hq.symm
    cases f with
    | ret v => exact .ret p
    | brk => exact .brk p
    | next => exact .next (fin p)
    | cont => exact .cont (fin p)
  · rintro h' tk m' news' F' N' _ hJ
    exact done m' news' h' tk hJ F' N'
/-- for c in a text; the ledger's addresses may change from turn to turn; new lists stand apart from the iterator -/
theorem iter_textL {x' : Str} {t : Tok} {m₀ : Str → Option Value} {news : List (Addr × Obj)} (J : Nat → (Str → Option Value) → List (Addr × Obj) → Prop) (hh : A.handled = none)
    (F : Fr h₀ env.locals s.heap m₀) (N : News h₀ env.locals s.heap news) (hj : J 0 m₀ news)
    (turn : ∀ i c t m₁ nx h tk own, x'.cps[i]? = some c → NoList own → OwnOff own (nx.map (·.1)) → J i m₁ nx → Fr h₀ env.locals h (fun y => if y = x then some (.str ⟨#[c]⟩ t) else m₁ y) → News h₀ env.locals h (nx ++ own) →
      wpAny (model prog w) A (execs body env) (InvPostG h₀ env.locals (J (i + 1)) own { s with heap := h, toks := tk } Q) E { s with heap := h, toks := tk })
    (done : ∀ m₁ nx h tk, J x'.length m₁ nx → Fr h₀ env.locals h m₁ → News h₀ env.locals h nx → Q .next { s with heap := h, toks := tk }) :
    wpAny (model prog w) A (pyIter (.str x' t)) (fun it s₂ => LoopAtV prog w A h₀ env x body Q E it s₂) E s := by
  have key : ∀ (cls : String), cls ≠ "list" → Walks prog w A s.heap.objs.size [s.heap.objs.size] [s.heap.objs.size] x'.cps.size (SignAt x') (fun i h => h.IsStrIter s.heap.objs.size cls x' t i) →
      LoopAtV prog w A h₀ env x body Q E (.ref s.heap.objs.size) { s with heap := s.heap.push { cls := .type cls, data := .fields #[.str x' t, .int 0 0] } } := by
    intro cls hcls W
    refine loop_own (s := { s with heap := s.heap.push _ }) J W ?_ ?_ ?_ ?_ ⟨_, Heap.get?_push_size _ rfl, rfl, rfl⟩ (F.push _) (fun p hp => ⟨Heap.get?_push_of_some _ (N p hp).1, (N p hp).2⟩) hj ?_ ?_
    · intro i h hi
      obtain ⟨o, ho, h1, h2⟩ := hi
      exact ⟨o, ho, by rw [h1]; intro q; injection q with q; exact hcls q⟩
    · intro hm
      exact absurd F.ns.lt (hm ▸ Nat.lt_irrefl _)
    · exact next_is_new F
    · intro p hp hI
      exact absurd (Heap.lt_size (N p hp).1) (hI ▸ Nat.lt_irrefl _)
    · rintro i v m₁ nx h tk own hi ⟨c, u, hc, rfl⟩ hl hoff hJ F₁ N₁
      exact turn i c u m₁ nx h tk own hc hl hoff hJ F₁ N₁
    · intro m₁ nx h tk hJ F₁ N₁
      exact done m₁ nx h tk hJ F₁ N₁
  refine wpAny_pyIter_strU ?_
  unfold strIterType
  split
  · exact key _ (by decide) (Walks.strAscii hh _ _ _)
  · exact key _ (by decide) (Walks.strWide hh _ _ _)
end
end
section
theorem fresh_Sb : True := by w_top off; trivial
open PySem.Builtin PySem.Builtin.Str
noncomputable abbrev KK (P : Params) : Frag := Mine.hd.heap_1 P
/-- a Contentline -/
noncomputable abbrev clO (x : Str) (t : Tok) (dx : Addr) (sl : Array (Option Value)) : Obj := { cls := .ref 443, dict := some dx, data := .prim (.str x t), slots := sl }
/-- a Contentline in the heap -/
noncomputable def ClAt (h : Heap) (c : Addr) (x : Str) : Prop := ∃ t dx sl, h.get? c = some (clO x t dx sl) ∧ h.get? dx = some emptyDict
theorem ClAt.keeps {h h' : Heap} {c : Addr} {x : Str} (V : ClAt h c x) (k : ∀ b o, h.get? b = some o → h'.get? b = some o) : ClAt h' c x := by
  obtain ⟨t, dx, sl, a, b⟩ := V
  exact ⟨t, dx, sl, k _ _ a, k _ _ b⟩
theorem cl_contains (P : Params) : findIn (KK P) (.ref 443) (Str.ofString "__contains__") = some (some (.builtin "str.__contains__")) := by kernel_rfl
theorem cl_iter (P : Params) : findIn (KK P) (.ref 443) (Str.ofString "__iter__") = some (some (.builtin "str.__iter__")) := by kernel_rfl
theorem cl_len (P : Params) : findIn (KK P) (.ref 443) (Str.ofString "__len__") = some (some (.builtin "str.__len__")) := by kernel_rfl
theorem cl_bool (P : Params) : findIn (KK P) (.ref 443) (Str.ofString "__bool__") = some none := by kernel_rfl
theorem cl_str (P : Params) : findIn (KK P) (.ref 443) (Str.ofString "__str__") = some (some (.builtin "str.__str__")) := by kernel_rfl
theorem cl_mro (P : Params) : mroIn (KK P) 443 (.type "str") = some true := by kernel_rfl
theorem cl_mro_obj (P : Params) : mroIn (KK P) 443 (.type "object") = some true := by kernel_rfl
theorem k_contains : builtinKind "str.__contains__" = some .slot := by decide +kernel
theorem k_iter : builtinKind "str.__iter__" = some .slot := by decide +kernel
theorem k_len : builtinKind "str.__len__" = some .slot := by decide +kernel
theorem k_str : builtinKind "str.__str__" = some .slot := by decide +kernel
theorem sp_contains : splitId "str.__contains__" = some ("str", "__contains__") := by decide +kernel
theorem sp_iter : splitId "str.__iter__" = some ("str", "__iter__") := by decide +kernel
theorem sp_len : splitId "str.__len__" = some ("str", "__len__") := by decide +kernel
theorem sp_str : splitId "str.__str__" = some ("str", "__str__") := by decide +kernel
section
variable {prog : Program} {w : World} {A : Around} {E : Value → Shared → Prop} {s : Shared} {K : Frag} {c C : Addr} {x : Str} {t : Tok} {ox : Obj} {od : Option Obj}
theorem cl_inst {h : Heap} (hc : ClAt h c x) : ∃ ox, InstAt h c ox 443 (some emptyDict) := by
  obtain ⟨t, dx, sl, a, b⟩ := hc
  exact ⟨_, a, rfl, rfl, b⟩
theorem inst_looks {M : Model} {h : Heap} (X : K.In h) (I : InstAt h c ox C od) {base : Value} {r : Bool} (hm : mroIn K C base = some r) : Looks M h (isInstance (.ref c) base) r := I.type.andThen (looks_mroIn X hm)
theorem special_bi {M : Model} {name : Str} {id : String} {args : List Value} {Q : Option Value → Shared → Prop} (X : K.In s.heap) (I : InstAt s.heap c ox C od) (hs : findIn K (.ref C) name = some (some (.builtin id)))
    (hb : ∀ self, bindSpecial (.builtin id) self = pure (.builtin id, [self])) (h : wpAny M A (call (.builtin id) (.ref c :: args)) (fun v => Q (some v)) E s) : wpAny M A (callSpecial? (.ref c) name args) Q E s :=
  wpAny_bind (wpAny_bind (I.type.here ((looks_findIn X hs).here (wpAny_holding (wpAny_bind (wpAny_of_eq (hb _) (wpAny_bind (wpAny_mono h (fun _ _ z => wpAny_pure z) fun _ _ z => z))))))))
theorem bi_call {id owner n : String} {B : Builtin} {rest : List Value} {S : PySem.Spec} {Q : Value → Shared → Prop} (X : K.In s.heap) (I : InstAt s.heap c ox C od) (hm : mroIn K C (.type owner) = some true)
    (hp : plainId id = true) (hk : builtinKind id = some .slot) (hs : splitId id = some (owner, n)) (entry : entryFor table id = some B) (args : argsOk id ⟨.ref c :: rest, []⟩) (g : Meets (B ⟨.ref c :: rest, []⟩) S) (h : S A (wants Q E) s) :
    wpAny (model prog w) A (call (.builtin id) (.ref c :: rest)) Q E s :=
  wpAny_call (codeAny_call_builtin hp entry (check_slot hk hs (inst_looks X I hm) args (g prog w A (wants Q E) s h)))
theorem text_of {M : Model} {Q : Str → Shared → Prop} (hc : ClAt s.heap c x) (h : Q x s) : wpAny M A (textOf (.ref c)) Q E s := by
  obtain ⟨t, dx, sl, hc, _⟩ := hc
  unfold textOf
  exact wpAny_bind (wpAny_bind (wpAny_load hc (wpAny_pure (wpAny_pure h))))
theorem meets_contains {y : Str} {u : Tok} : Meets («str.__contains__» ⟨[.ref c, .str y u], []⟩) (fun _ R s => ClAt s.heap c x ∧ R (.ok (.ret (.bool !(occurrences x y 0 x.length 1).isEmpty))) s) := by
  refine .of_wp fun prog w A R s h => ?_
  show wpAny _ _ ((do let s ← textOf (.ref c); pure (Value.ref c, s, [Value.str y u])) >>= _) _ _ _
  exact wpAny_bind (wpAny_bind (text_of h.1 (wpAny_pure (wpAny_pure ⟨_, rfl, h.2⟩))))
theorem meets_iter : Meets («str.__iter__» ⟨[.ref c], []⟩) (fun _ R s => ClAt s.heap c x ∧ R (.ok (.ret (.ref s.heap.objs.size))) { s with heap := s.heap.push { cls := .type "str_iterator", data := .fields #[.ref c, .int 0 0] } }) := by
  refine .of_wp fun prog w A R s h => ?_
  show wpAny _ _ ((do let s ← textOf (.ref c); pure (Value.ref c, s, ([] : List Value))) >>= _) _ _ _
  refine wpAny_bind (wpAny_bind (text_of h.1 (wpAny_pure ?_)))
  exact wpAny_bind (wpAny_newObj_type (wpAny_pure ⟨_, rfl, h.2⟩))
/-- a walker over a Contentline's signs -/
noncomputable def SubIter (h : Heap) (I c : Addr) (x : Str) (i : Nat) : Prop := (∃ o, h.get? I = some o ∧ o.cls = .type "str_iterator" ∧ o.data = .fields #[.ref c, .int i 0]) ∧ ∃ t dx sl, h.get? c = some (clO x t dx sl)
theorem sub_item {I : Addr} {i d : Nat} {Q : Option Value → Shared → Prop} (hit : SubIter s.heap I c x i) (hne : c ≠ I) (hx : x.cps[i]? = some d)
    (hQ : ∀ h', SubIter h' I c x (i + 1) → Heap.SameBut I s.heap h' → Q (some (.str ⟨#[d]⟩ s.toks)) { s with heap := h', toks := s.toks + 1 }) :
    wpAny (model prog w) A (pyNext (.ref I)) Q E s := by
  obtain ⟨⟨o, ho, hc, hd⟩, t, dx, sl, hcl⟩ := hit
  have hT : s.TypeIs (.ref I) "str_iterator" := ⟨o, ho, hc⟩
  unfold pyNext
  refine wpAny_bind (wpAny_attempt (wpAny_callSpecial?_slot (name := Str.ofString "__next__") hT F.slot_str_iterator_next
    (wpAny_call_entry F.slot_str_iterator_next hT F.entry_str_iterator_next ?_ (F.args_str_iterator_next_1 _))))
  show wpAny _ _ (field (.ref I) 0 >>= _) _ _ s
  refine wpAny_bind (wpAny_field ho hd (x := .ref c) rfl ?_)
  show wpAny _ _ (asStr? (.ref c) >>= _) _ _ s
  refine wpAny_bind (wpAny_bind (wpAny_load hcl (wpAny_pure ?_)))
  show wpAny _ _ (field (.ref I) 1 >>= _) _ _ s
  refine wpAny_bind (wpAny_field ho hd (x := .int i 0) rfl ?_)
  simp only [Int.toNat_natCast, hx]
  refine wpAny_bind (wpAny_setField ho hd (by simp) (wpAny_bind (wpAny_mkStr (wpAny_pure ⟨_, rfl, wpAny_pure (hQ _ ?_ (Heap.SameBut.update ..))⟩) (by show 1 ≤ sizeLine; decide))))
  exact ⟨⟨_, Heap.get?_update_self _ ho (Obj.isFreed_of_fields (Obj.data_mapFields hd _)), (Obj.cls_mapFields ..).trans hc, by
    rw [Obj.data_mapFields hd]; simp [rawInt]⟩, t, dx, sl, (Heap.SameBut.update ..).extBut _ _ hne hcl⟩
theorem sub_end {I : Addr} {i : Nat} {Q : Option Value → Shared → Prop} (hh : A.handled = none) (hit : SubIter s.heap I c x i) (hx : x.cps[i]? = none)
    (hQ : ∀ h', Heap.ExtBut I s.heap h' → Q none { s with heap := h' }) : wpAny (model prog w) A (pyNext (.ref I)) Q E s := by
  obtain ⟨⟨o, ho, hc, hd⟩, t, dx, sl, hcl⟩ := hit
  have hT : s.TypeIs (.ref I) "str_iterator" := ⟨o, ho, hc⟩
  unfold pyNext
  refine wpAny_bind (wpAny_attempt (wpAny_callSpecial?_slot (name := Str.ofString "__next__") hT F.slot_str_iterator_next
    (wpAny_call_entry F.slot_str_iterator_next hT F.entry_str_iterator_next ?_ (F.args_str_iterator_next_1 _))))
  show wpAny _ _ (field (.ref I) 0 >>= _) _ _ s
  refine wpAny_bind (wpAny_field ho hd (x := .ref c) rfl ?_)
  show wpAny _ _ (asStr? (.ref c) >>= _) _ _ s
  refine wpAny_bind (wpAny_bind (wpAny_load hcl (wpAny_pure ?_)))
  show wpAny _ _ (field (.ref I) 1 >>= _) _ _ s
  refine wpAny_bind (wpAny_field ho hd (x := .int i 0) rfl ?_)
  simp only [Int.toNat_natCast, hx]
  refine wpAny_bind (wpAny_rule (wpAny_bind (wpAny_setField ho hd (by simp) (wpAny_bind (wpAny_letGo ?_)))))
  show wpAny _ _ (newExc (.type "StopIteration") [] >>= _) _ _ _
  refine wpAny_bind ?_
  simp only [newExc, newTuple]
  refine wpAny_bind (wpAny_newObj_type ?_ (by size_fits))
  refine wpAny_bind (m := firstArgMember _ _) (wpAny_of_eq (a := Value.none) (by first | rfl | (simp only [firstArgMember]; rfl)) ?_)
  refine wpAny_newObj_type ?_ (by size_fits)
  simp only [raiseNew]
  refine wpAny_bind (wpAny_handled ?_)
  rw [show A.in1.handled = none from hh]
  refine wpAny_bind (wpAny_pure (wpAny_throw ?_))
  refine wpAny_bind (wpAny_isInstance (T := "StopIteration") (b := true) ⟨_, Heap.get?_push_size _ rfl, rfl⟩ isSubtype_stop ?_)
  exact wpAny_pure (hQ _ (((Heap.SameBut.update ..).extBut.push _).push _))
theorem walks_sub (hh : A.handled = none) (I : Addr) (hne : c ≠ I) : Walks prog w A I [I, c] [I] x.cps.size (SignAt x) (fun i h => SubIter h I c x i) where
  sub := fun b hb => by simp at hb; simp [hb]
  frame := fun _ _ _ st hk => by
    obtain ⟨⟨o, ho, r⟩, t, dx, sl, hcl⟩ := st
    exact ⟨⟨o, hk I (by simp) o ho, r⟩, t, dx, sl, hk c (by simp) _ hcl⟩
  item := fun i s Q E hi st hQ => by
    refine sub_item st hne (d := x.cps[i]) (by simp [hi]) fun h' hit' hs' => ?_
    exact hQ _ h' (s.toks + 1) ⟨_, _, by simp [hi], rfl⟩ hit' fun b o hb e => hs'.extBut b o (fun h => hb (by simp [h])) e
  done := fun s Q E st hQ => sub_end hh st (by simp) fun h' he' => hQ h' s.toks fun b o hb e => he' b o (fun h => hb (by simp [h])) e
  self := fun i s Q E st hQ => by
    obtain ⟨⟨o, ho, hc, hd⟩, _⟩ := st
    have hT : s.TypeIs (.ref I) "str_iterator" := ⟨o, ho, hc⟩
    refine wpAny_pyIter_slot hT F.slot_str_iterator_iter (wpAny_call_entry F.slot_str_iterator_iter hT F.entry_str_iterator_iter ?_ (F.args_str_iterator_iter_1 _))
    show wpAny _ _ (ret (.ref I)) _ _ s
    exact wpAny_pure ⟨_, rfl, "str_iterator", _, hT, F.slot_str_iterator_next.lookup, hQ⟩
theorem isinst_bi {T : String} {Q : Value → Shared → Prop} (X : K.In s.heap) (I : InstAt s.heap c ox C od) (hm : mroIn K C (.type T) = some true) (hty : typeOf (.type T) = pure (.type "type")) (h : Q (.bool true) s) :
    wpAny (model prog w) A (call (.builtin "isinstance") [.ref c, .type T]) Q E s := by
  refine call_isinstance_of ?_ (fun e => nomatch e)
  unfold Builtin.«isinstance.nested»
  refine wpAny_bind (m := typeOf (.ref c)) (I.type.here ?_)
  show wpAny _ _ (if (Value.ref C == Value.type T) = true then _ else _) _ _ s
  rw [if_neg (by rw [beq_iff_eq]; intro e; cases e)]
  refine wpAny_bind (m := typeOf (.type T)) (wpAny_of_eq hty ?_)
  show wpAny _ _ (if (Value.type "type" == Value.type "type") = true then _ else _) _ _ s
  rw [if_pos (by decide)]
  refine wpAny_bind (wpAny_bind (m := isType (.type T)) (wpAny_pure (a := true) ?_))
  refine wpAny_bind (m := isInstance (.ref c) (.type T)) ((inst_looks X I hm).here ?_)
  exact wpAny_pure (a := true) (wpAny_pure h)
theorem unlessNone_bi {M : Model} {name : Str} {id : String} {args : List Value} {refuse : Sem Value} {Q : Option Value → Shared → Prop} (X : K.In s.heap) (I : InstAt s.heap c ox C od) (hs : findIn K (.ref C) name = some (some (.builtin id)))
    (hb : ∀ self, bindSpecial (.builtin id) self = pure (.builtin id, [self]))
    (h : wpAny M A (call (.builtin id) (.ref c :: args)) (fun v => Q (some v)) E s) : wpAny M A (callSpecialUnlessNone? (.ref c) name args refuse) Q E s := by
  unfold callSpecialUnlessNone?
  refine wpAny_bind (wpAny_bind (I.type.here ((looks_findIn X hs).here ?_)))
  refine wpAny_holding (wpAny_bind (wpAny_of_eq (hb _) ?_))
  dsimp only
  rw [if_neg (by simp)]
  exact wpAny_bind (wpAny_mono h (fun _ _ z => wpAny_pure z) fun _ _ z => z)
theorem contains_bi {M : Model} {id : String} {v : Value} {Q : Bool → Shared → Prop} (X : K.In s.heap) (I : InstAt s.heap c ox C od) (hs : findIn K (.ref C) "__contains__" = some (some (.builtin id)))
    (hb : ∀ self, bindSpecial (.builtin id) self = pure (.builtin id, [self]))
    (h : wpAny M A (call (.builtin id) [.ref c, v]) (fun r s' => wpAny M A (truthy r) Q E s') E s) : wpAny M A (contains (.ref c) v) Q E s := by
  unfold contains
  refine wpAny_holding (wpAny_bind (wpAny_bind (I.type.here ((looks_findIn X hs).here ?_))))
  rw [if_neg (by simp)]
  exact wpAny_bind (unlessNone_bi X I hs hb h)
theorem ifBoundUN_bi {M : Model} {name : Str} {id : String} {refuse : Sem Value} {Q : Option Value → Shared → Prop} (X : K.In s.heap) (I : InstAt s.heap c ox C od) (hs : findIn K (.ref C) name = some (some (.builtin id)))
    (hb : ∀ self, bindSpecial (.builtin id) self = pure (.builtin id, [self]))
    (h : wpAny M A (call (.builtin id) [.ref c]) (fun v => Q (some v)) E s) : wpAny M A (callSpecialIfBoundUnlessNone? (.ref c) name refuse) Q E s := by
  simp only [callSpecialIfBoundUnlessNone?, bindSpecialIfBound?]
  refine wpAny_holding (wpAny_bind (wpAny_bind (wpAny_bind (I.type.here ((looks_findIn X hs).here ?_)))))
  refine wpAny_bind (wpAny_askSetting (wpAny_ite ?_))
  have fin : wpAny M A (do if ((Value.builtin id) == Value.none) = true then (do let __x ← refuse; pure (some __x)) else (do let __x ← call (.builtin id) [.ref c]; pure (some __x))) Q E s := by
    rw [if_neg (by rw [beq_iff_eq]; intro e; cases e)]
    exact wpAny_bind (wpAny_mono h (fun v s' h' => wpAny_pure h') fun _ _ h' => h')
  split
  · exact wpAny_bind (wpAny_of_eq (hb _) (wpAny_pure (by exact fin)))
  · exact wpAny_tryCatch (wpAny_bind (wpAny_of_eq (hb _) (wpAny_pure (by exact fin))))
theorem pyIter_bi {M : Model} {id : String} {Q : Value → Shared → Prop} (X : K.In s.heap) (I : InstAt s.heap c ox C od) (hs : findIn K (.ref C) "__iter__" = some (some (.builtin id)))
    (hb : ∀ self, bindSpecial (.builtin id) self = pure (.builtin id, [self]))
    (hc : wpAny M A (call (.builtin id) [.ref c]) (fun it s' => ∃ T' r, s'.TypeIs it T' ∧ typeLookup (.type T') "__next__" = pure (some r) ∧ Q it s') E s) :
    wpAny M A (pyIter (.ref c)) Q E s := by
  unfold pyIter
  refine wpAny_bind (wpAny_bind (I.type.here ((looks_findIn X hs).here ?_)))
  show wpAny M A (callSpecialIfBoundUnlessNone? (.ref c) "__iter__" _ >>= _) Q E s
  refine wpAny_bind (ifBoundUN_bi X I hs hb (wpAny_mono hc (fun it s' h' => ?_) fun _ _ x => x))
  obtain ⟨T', r, hT', hl, hQ⟩ := h'
  exact wpAny_bind (wpAny_specialOf hT' hl (wpAny_pure hQ))
/-- a value that is a text: a str, or a Contentline -/
noncomputable def TextV (h : Heap) (v : Value) (x : Str) : Prop := (∃ t, v = .str x t) ∨ ∃ c, v = .ref c ∧ ClAt h c x
theorem TextV.keeps {h h' : Heap} {v : Value} (V : TextV h v x) (k : ∀ b o, h.get? b = some o → h'.get? b = some o) : TextV h' v x := by
  rcases V with h1 | ⟨c, rfl, h1⟩
  · exact .inl h1
  · exact .inr ⟨c, rfl, h1.keeps k⟩
theorem isinst_text {P : Params} {v : Value} {Q : Value → Shared → Prop} (X : (KK P).In s.heap) (V : TextV s.heap v x) (h : Q (.bool true) s) : wpAny (model prog w) A (call (.builtin "isinstance") [v, .type "str"]) Q E s := by
  rcases V with ⟨t, rfl⟩ | ⟨c, rfl, hc⟩
  · exact call_isinstance_yes (typeIs_str _ _ _) (by kernel_rfl) isSubtype_str_str h
  · obtain ⟨_, I⟩ := cl_inst hc
    exact isinst_bi X I (cl_mro P) (by kernel_rfl) h
theorem notIn_text {P : Params} {v : Value} {y : Str} {u : Tok} {Q : Value → Shared → Prop} (X : (KK P).In s.heap) (V : TextV s.heap v x) (h : Q (.bool (!(!(occurrences x y 0 x.length 1).isEmpty))) s) : wpAny (model prog w) A (compareOp .NotIn (.str y u) v) Q E s := by
  rcases V with ⟨t, rfl⟩ | ⟨c, rfl, hc⟩
  · exact PyProof.Rows.notIn_str h
  · obtain ⟨_, I⟩ := cl_inst hc
    refine wpAny_bind (contains_bi X I (cl_contains P) F.slot_str_contains.bind ?_)
    exact bi_call X I (cl_mro P) F.slot_str_contains.plain k_contains sp_contains F.entry_str_contains (F.args_str_contains_2 _ _) meets_contains ⟨hc, wpAny_pure (wpAny_pure h)⟩
end
section
variable {prog : Program} {w : World} {A : Around} {E : Value → Shared → Prop} {s : Shared} {env : Env} {h₀ : Heap} {x : Str} {body : List Stmt} {Q : Flow → Shared → Prop}
theorem loop_own2 {I : Addr} {fp : List Addr} {n : Nat} {P : Nat → Value → Prop} {St : Nat → Heap → Prop} {m₀ : Str → Option Value} {news : List (Addr × Obj)} (J : Nat → (Str → Option Value) → List (Addr × Obj) → Prop)
    (W : Walks prog w A I fp [I] n P St) (hfp : ∀ b ∈ fp, b = I ∨ ∃ o, h₀.get? b = some o) (hI : I ∈ fp) (hob : ∀ i h, St i h → ∃ o, h.get? I = some o ∧ o.cls ≠ .type "list") (hLf : env.locals ≠ I) (hwr : h₀.get? I = none) (hnw : ∀ p ∈ news, p.1 ≠ I) (hst : St 0 s.heap)
    (F : Fr h₀ env.locals s.heap m₀) (N : News h₀ env.locals s.heap news) (hj : J 0 m₀ news)
    (turn : ∀ i v m₁ nx h tk own, i < n → P i v → NoList own → OwnOff own (nx.map (·.1)) → J i m₁ nx → Fr h₀ env.locals h (fun y => if y = x then some v else m₁ y) → News h₀ env.locals h (nx ++ own) →
      wpAny (model prog w) A (execs body env) (InvPostG h₀ env.locals (J (i + 1)) own { s with heap := h, toks := tk } Q) E { s with heap := h, toks := tk })
    (done : ∀ m₁ nx h tk, J n m₁ nx → Fr h₀ env.locals h m₁ → News h₀ env.locals h nx → Q .next { s with heap := h, toks := tk }) :
    LoopAtV prog w A h₀ env x body Q E (.ref I) s := by
  have hLfp : env.locals ∉ fp := by
    intro q
    rcases hfp _ q with e | ⟨o, e⟩
    · exact hLf e
    · obtain ⟨oL, es, ep, hL1, a, c, d⟩ := F.ns
      exact absurd (Heap.lt_size e) (Nat.not_lt.mpr F.above)
  refine ⟨I, fp, [I], n, P, St, m₀, news, J, rfl, W, hLfp, fun b hb => List.mem_singleton.mp hb ▸ hwr, fun p hp q => hnw p hp (List.mem_singleton.mp q), hst, F, N, hj, ?_, ?_⟩
  · rintro i v m₁ news₁ s₁ own ⟨hh', tk', rfl⟩ hin hP hJ hoff hown hown2 hmem hst' F₁ N₁
    obtain ⟨oI, hoI, hcI⟩ := hob _ _ hst'
    have hisI : ∀ p ∈ own, p.1 = I := by
      intro p hp
      rcases hfp _ (hown p hp) with e | ⟨o, e⟩
      · exact e
      · have := (N₁ p (List.mem_append.mpr (.inl hp))).2.2
        rw [e] at this; cases this
    have hno : NoList own := by
      intro p hp
      have := hown2 p hp
      rw [hisI p hp, hoI] at this
      exact (Option.some.inj this) ▸ hcI
    have hsep : OwnOff own (news₁.map (·.1)) := by
      intro p hp b hb e
      obtain ⟨q, hq, rfl⟩ := List.mem_map.mp hb
      exact hoff q hq (List.mem_singleton.mpr (e ▸ hisI p hp))
    have N₂ : News h₀ env.locals hh' (news₁ ++ own) := fun p hp => N₁ p ((List.mem_append.mp hp).elim (fun h => List.mem_append.mpr (.inr h)) fun h => List.mem_append.mpr (.inl h))
    refine wpAny_mono (turn i v m₁ news₁ hh' tk' own hin hP hno hsep hJ F₁ N₂) (fun f s₂ p => ?_) fun _ _ e => e
    have fin : InvEndG h₀ env.locals (J (i + 1)) own { s with heap := hh', toks := tk' } s₂ → LoopStepU h₀ env.locals [I] own (J (i + 1)) { s with heap := hh', toks := tk' } .next s₂ := by
      rintro ⟨h', tk, m', news', nx, e, F', N', hn, ho, ha, hm⟩
      refine ⟨rfl, h', tk, m', nx, e, F', fun p hp => N' p ((List.mem_append.mp hp).elim (ho p) (hn p)), fun p hp hq => ?_, hm⟩
      have hq := List.mem_singleton.mp hq
      exact ha _ (hmem I hI hwr oI hoI) p.1 (List.mem_map.mpr ⟨p, hp, rfl⟩) hq.symm
    cases f with
    | ret v => exact .ret p
    | brk => exact .brk p
    | next => exact .next (fin p)
    | cont => exact .cont (fin p)
  · rintro h' tk m' news' F' N' _ hJ
    exact done m' news' h' tk hJ F' N'
/-- for c in a text or a Contentline -/
theorem iter_textV {PP : Params} {v' : Value} {x' : Str} {m₀ : Str → Option Value} {news : List (Addr × Obj)} (J : Nat → (Str → Option Value) → List (Addr × Obj) → Prop) (hh : A.handled = none)
    (X : (KK PP).In h₀) (V : TextV h₀ v' x') (F : Fr h₀ env.locals s.heap m₀) (N : News h₀ env.locals s.heap news) (hj : J 0 m₀ news)
    (turn : ∀ i c t m₁ nx h tk own, x'.cps[i]? = some c → NoList own → OwnOff own (nx.map (·.1)) → J i m₁ nx → Fr h₀ env.locals h (fun y => if y = x then some (.str ⟨#[c]⟩ t) else m₁ y) → News h₀ env.locals h (nx ++ own) →
      wpAny (model prog w) A (execs body env) (InvPostG h₀ env.locals (J (i + 1)) own { s with heap := h, toks := tk } Q) E { s with heap := h, toks := tk })
    (done : ∀ m₁ nx h tk, J x'.length m₁ nx → Fr h₀ env.locals h m₁ → News h₀ env.locals h nx → Q .next { s with heap := h, toks := tk }) :
    wpAny (model prog w) A (pyIter v') (fun it s₂ => LoopAtV prog w A h₀ env x body Q E it s₂) E s := by
  rcases V with ⟨t, rfl⟩ | ⟨c, rfl, hc⟩
  · exact iter_textL J hh F N hj turn done
  · have hcs := hc.keeps F.keep
    obtain ⟨_, I⟩ := cl_inst hcs
    obtain ⟨tc, dxc, slc, hc0, _⟩ := hc
    have hc1 := F.keep _ _ hc0
    have hne : c ≠ s.heap.objs.size := Nat.ne_of_lt (Heap.lt_size hc1)
    refine pyIter_bi (X.keeps F.keep) I (cl_iter PP) PySem.F.slot_str_iter.bind ?_
    refine bi_call (X.keeps F.keep) I (cl_mro PP) PySem.F.slot_str_iter.plain k_iter sp_iter PySem.F.entry_str_iter (PySem.F.args_str_iter_1 _) meets_iter ⟨hcs, ?_⟩
    refine ⟨"str_iterator", _, ⟨_, Heap.get?_push_size _ rfl, rfl⟩, PySem.F.slot_str_iterator_next.lookup, ?_⟩
    refine loop_own2 (s := { s with heap := s.heap.push _ }) J (walks_sub hh _ hne) ?_ (.head _) ?_ ?_ (next_is_new F) ?_ ⟨⟨_, Heap.get?_push_size _ rfl, rfl, rfl⟩, tc, dxc, slc, Heap.get?_push_of_some _ hc1⟩ (F.push _) (fun p hp => ⟨Heap.get?_push_of_some _ (N p hp).1, (N p hp).2⟩) hj ?_ ?_
    · intro b hb
      rcases List.mem_cons.mp hb with rfl | hb
      · exact .inl rfl
      · exact .inr ⟨_, (List.mem_singleton.mp hb).symm ▸ hc0⟩
    · rintro i h ⟨⟨o, ho, h1, h2⟩, _⟩
      exact ⟨o, ho, by rw [h1]; intro q; injection q with q; exact absurd q (by decide)⟩
    · intro hm
      exact absurd F.ns.lt (hm ▸ Nat.lt_irrefl _)
    · intro p hp hI
      exact absurd (Heap.lt_size (N p hp).1) (hI ▸ Nat.lt_irrefl _)
    · rintro i v m₁ nx h tk own hi ⟨c, u, hc, rfl⟩ hl hoff hJ F₁ N₁
      exact turn i c u m₁ nx h tk own hc hl hoff hJ F₁ N₁
    · intro m₁ nx h tk hJ F₁ N₁
      exact done m₁ nx h tk hJ F₁ N₁
end
end
section
theorem fresh_En : True := by w_top off; trivial
/-- the octets of a text -/
noncomputable def enc (l : List Nat) : List UInt8 := l.flatMap Str.utf8Of
theorem enc_append (a b : List Nat) : enc (a ++ b) = enc a ++ enc b := by simp [enc]
theorem u8_le (c : Nat) : (Str.utf8Of c).length ≤ 4 := by
  unfold Str.utf8Of
  split
  · simp
  · split
    · simp
    · split <;> simp
theorem u8_pos (c : Nat) : 1 ≤ (Str.utf8Of c).length := by
  unfold Str.utf8Of
  split
  · simp
  · split
    · simp
    · split <;> simp
theorem enc_le : ∀ l : List Nat, (enc l).length ≤ 4 * l.length
  | [] => by simp [enc]
  | c :: r => by
    have h1 := enc_le r
    have h2 := u8_le c
    have : enc (c :: r) = Str.utf8Of c ++ enc r := by simp [enc]
    rw [this, List.length_append, List.length_cons]; omega
theorem foldl_enc : ∀ (l : List Nat) (acc : Array UInt8), l.foldl (fun acc y => acc ++ (Str.utf8Of y).toArray) acc = acc ++ (enc l).toArray
  | [], acc => by simp [enc]
  | c :: r, acc => by
    rw [List.foldl_cons, foldl_enc r]
    have : enc (c :: r) = Str.utf8Of c ++ enc r := by simp [enc]
    rw [this]; simp
theorem enc_loop {σ β : Type} {n : Nat} {F : Nat → σ → Sem (ForInStep σ)} {a b : σ} {G : σ → Sem β} (h1 : F 0 a = pure (.yield b)) (h2 : ∀ x, F x b = pure (.done b)) (hn : 0 < n) : (forIn [:n] a F >>= G) = G b := by
  rw [KPc.range_list]
  obtain ⟨k, rfl⟩ : ∃ k, n = k + 1 := ⟨n - 1, by omega⟩
  rw [List.range'_succ, List.forIn_cons, h1]
  show (forIn (List.range' (0 + 1) k 1) b F >>= G) = G b
  cases k with
  | zero => rfl
  | succ k =>
    rw [List.range'_succ, List.forIn_cons, h2]
    rfl
theorem enc_loop0 {σ β : Type} {F : Nat → σ → Sem (ForInStep σ)} {a : σ} {G : σ → Sem β} : (forIn [:0] a F >>= G) = G a := by
  rw [KPc.range_list]
  rfl
open Builtin Builtin._codecs in
theorem narrow {id : String} {v : Value} {l : List Nat} (hb : ∀ c ∈ l, Str.isSurrogate c = false) (hl : l.length ≤ 1000000) : encodeNarrow id utf8Codec none v (txt l) = pure (enc l).toArray := by
  have hf : (txt l).cps.findIdx? utf8Codec.bad = none := by
    rw [Array.findIdx?_eq_none_iff]
    intro c hc
    exact hb c (by simpa [txt] using hc)
  have he : (txt l).cps.extract 0 (txt l).cps.size = (txt l).cps := by simp
  have hs : (txt l).cps.size = l.length := by simp [txt]
  cases l with
  | nil =>
    unfold encodeNarrow
    exact enc_loop0
  | cons c r =>
    have hlen : (txt (c :: r)).length = r.length + 1 := by rw [str_len_txt]; rfl
    have h0 : (txt (c :: r)).cps[0]? = some c := by simp [txt]
    have hc : utf8Codec.bad c = false := hb c (.head _)
    have hz : ¬ (#[] : Array UInt8).size > sizeLine := by rw [sizeLine_eq]; simp
    have hw : Array.foldl (fun acc y => acc ++ (utf8Codec.bytesOf y).toArray) #[] (txt (c :: r)).cps = (enc (c :: r)).toArray := by
      have : Array.foldl (fun acc y => acc ++ (Str.utf8Of y).toArray) #[] (txt (c :: r)).cps = (enc (c :: r)).toArray := by
        rw [txt, List.foldl_toArray', foldl_enc]
        · simp
        · simp
      exact this
    unfold encodeNarrow
    refine Eq.trans (enc_loop (b := ((c :: r).length, (enc (c :: r)).toArray, {})) ?_ ?_ (by rw [hlen]; omega)) ?_
    · simp only [hz, if_false, h0, hc, Bool.not_false, if_true, he, hf, Option.getD_none, hw, pure_bind]
      rw [Nat.zero_add, hs]
    · intro x
      have h9 : (txt (c :: r)).cps[(c :: r).length]? = none := by simp [txt]
      have hz2 : ¬ (enc (c :: r)).toArray.size > sizeLine := by
        have := enc_le (c :: r)
        rw [sizeLine_eq, List.size_toArray]; omega
      simp only [hz2, if_false, h9]
    · rfl
/-- the signs of this law -/
noncomputable def Sign (c : Nat) : Prop := c < 128 ∨ c = 233 ∨ c = 119070
theorem sign_plain {c : Nat} (h : Sign c) : Str.isSurrogate c = false := by
  unfold Str.isSurrogate
  rcases h with h | rfl | rfl
  · simp; omega
  · rfl
  · rfl
theorem dec_loop {σ : Type} {F : Nat → σ → Sem (ForInStep σ)} (S : Nat → σ) (m : Nat) (h1 : ∀ x i, i < m → F x (S i) = pure (.yield (S (i + 1)))) (h2 : ∀ x, F x (S m) = pure (.done (S m))) :
    ∀ n k i, i ≤ m → m - i ≤ n → (forIn (List.range' k n 1) (S i) F : Sem σ) = pure (S m)
  | 0, k, i, hi, hn => by
    have : i = m := by omega
    subst this
    rfl
  | n + 1, k, i, hi, hn => by
    rw [List.range'_succ, List.forIn_cons]
    by_cases h : i = m
    · subst h; rw [h2]; rfl
    · rw [h1 _ _ (by omega)]
      exact dec_loop S m h1 h2 n (k + 1) (i + 1) (by omega) (by omega)
theorem dec_loop' {σ β : Type} {F : Nat → σ → Sem (ForInStep σ)} {n : Nat} {a : σ} {G : σ → Sem β} (S : Nat → σ) (m : Nat) (h1 : ∀ x i, i < m → F x (S i) = pure (.yield (S (i + 1)))) (h2 : ∀ x, F x (S m) = pure (.done (S m))) (hn : m ≤ n) (ha : a = S 0) :
    (forIn [:n] a F >>= G) = G (S m) := by
  rw [KPc.range_list, ha, dec_loop S m h1 h2 n 0 0 (Nat.zero_le _) (by omega)]
  rfl
theorem getD_drop {b r : List UInt8} {p : Nat} {x : UInt8} (h : b.drop p = x :: r) : b.toArray.getD p 0 = x ∧ b.toArray[p]? = some x ∧ b.drop (p + 1) = r := by
  have h1 : b[p]? = some x := by
    have := congrArg List.head? h
    simpa [List.head?_drop] using this
  have h2 : b.drop (p + 1) = r := by
    have := congrArg List.tail h
    simpa [List.tail_drop] using this
  refine ⟨?_, by simpa using h1, h2⟩
  have h3 := (List.getElem?_eq_some_iff.mp h1)
  obtain ⟨h4, h5⟩ := h3
  simp [Array.getD, h4, h5]
open Builtin.Bytes in
theorem at_sign {b r : List UInt8} {p c : Nat} (hc : Sign c) (h : b.drop p = Str.utf8Of c ++ r) : utf8At b.toArray p = (.char c, p + (Str.utf8Of c).length) := by
  rcases hc with hc | rfl | rfl
  · have e : Str.utf8Of c = [c.toUInt8] := by unfold Str.utf8Of; rw [if_pos (by omega)]
    rw [e] at h ⊢
    obtain ⟨h1, _, _⟩ := getD_drop h
    unfold utf8At
    rw [h1]
    have : c.toUInt8.toNat = c := by
      rw [Nat.toUInt8_eq, UInt8.toNat_ofNat']; omega
    rw [this]
    simp only []
    rw [if_pos (by omega)]
    rfl
  · have e : Str.utf8Of 233 = [0xC3, 0xA9] := by decide
    rw [e] at h ⊢
    obtain ⟨h1, _, h2⟩ := getD_drop h
    obtain ⟨_, h3, _⟩ := getD_drop h2
    have h4 : b[p + 1]? = some 0xA9 := by simpa using h3
    unfold utf8At
    simp [h1, h4, List.range, List.range.loop, Except.bind]
  · have e : Str.utf8Of 119070 = [0xF0, 0x9D, 0x84, 0x9E] := by decide
    rw [e] at h ⊢
    obtain ⟨h1, _, h2⟩ := getD_drop h
    obtain ⟨_, h3, h2⟩ := getD_drop h2
    obtain ⟨_, h5, h2⟩ := getD_drop h2
    obtain ⟨_, h7, h2⟩ := getD_drop h2
    have h4 : b[p + 1]? = some 0x9D := by simpa using h3
    have h6 : b[p + 2]? = some 0x84 := by simpa using h5
    have h8 : b[p + 3]? = some 0x9E := by simpa using h7
    unfold utf8At
    simp [h1, h4, h6, h8, List.range, List.range.loop, Except.bind]
open Builtin Builtin._codecs in
theorem decoded {id : String} {l : List Nat} (hs : ∀ c ∈ l, Sign c) (hl : l.length ≤ 1000000) : runDecoder id utf8Decoder none true (enc l).toArray 0 [] = pure ((txt l).cps, (enc l).length) := by
  have hk : ∀ l : List Nat, l.length ≤ (enc l).length := by
    intro l
    induction l with
    | nil => simp [enc]
    | cons a r ih =>
      have : enc (a :: r) = Str.utf8Of a ++ enc r := by simp [enc]
      have := u8_pos a
      rw [‹enc (a :: r) = _›, List.length_append, List.length_cons]; omega
  have hd : ∀ i, i < l.length → (enc l).drop (enc (l.take i)).length = enc (l.drop i) := by
    intro i hi
    have : enc l = enc (l.take i) ++ enc (l.drop i) := by rw [← enc_append, List.take_append_drop]
    rw [this, List.drop_left]
  have hst : ∀ i, (enc (l.take i)).length ≤ (enc l).length ∧ (l.take i).length ≤ 1000000 := by
    intro i
    refine ⟨?_, by rw [List.length_take]; omega⟩
    have : enc l = enc (l.take i) ++ enc (l.drop i) := by rw [← enc_append, List.take_append_drop]
    rw [this, List.length_append]; omega
  unfold runDecoder
  refine Eq.trans (dec_loop' (fun i => ((enc (l.take i)).length, (l.take i).toArray, { held := [] })) l.length ?h1 ?h2 (by have := hk l; rw [List.size_toArray]; omega) rfl) ?_
  case h1 =>
    intro x i hi
    have hz : ¬ (l.take i).toArray.size > sizeLine := by
      have := (hst i).2
      rw [sizeLine_eq, List.size_toArray]; omega
    obtain ⟨c, hc⟩ : ∃ c, l.drop i = c :: l.drop (i + 1) := ⟨l[i], List.drop_eq_getElem_cons hi⟩
    have h3 := hd i hi
    have h4 : enc (l.drop i) = Str.utf8Of c ++ enc (l.drop (i + 1)) := by rw [hc]; simp [enc]
    rw [h4] at h3
    have hcm : c ∈ l := List.mem_of_mem_drop (i := i) (hc ▸ .head _)
    have h5 := at_sign (hs c hcm) h3
    have h6 : l.take (i + 1) = l.take i ++ [c] := by
      rw [List.take_add_one]
      have : l[i]? = some c := by rw [← List.head?_drop, hc]; rfl
      rw [this]; rfl
    have hp : ¬ (enc (l.take i)).length ≥ (enc l).toArray.size := by
      have h7 : enc l = enc (l.take i) ++ enc (l.drop i) := by rw [← enc_append, List.take_append_drop]
      have := u8_pos c
      rw [List.size_toArray, h7, List.length_append, h4, List.length_append]; omega
    have hf : utf8Decoder.find true (enc l).toArray (enc (l.take i)).length = .char c ((enc (l.take i)).length + (Str.utf8Of c).length) := by
      show (match Builtin.Bytes.utf8At (enc l).toArray (enc (l.take i)).length with | (.char c, nx) => _ | (.bad _ stop reason, _) => _) = _
      rw [h5]
    simp only [hz, hp, if_false, hf, Found.char]
    rw [h6, enc_append, List.length_append]
    simp [enc]
  case h2 =>
    intro x
    have hz : ¬ (l.take l.length).toArray.size > sizeLine := by
      have := (hst l.length).2
      rw [sizeLine_eq, List.size_toArray]; omega
    have hp : (enc (l.take l.length)).length ≥ (enc l).toArray.size := by rw [List.take_length, List.size_toArray]; exact Nat.le_refl _
    simp only [hz, if_false, hp, if_true]
  simp only [List.take_length]
  rfl
section
open Builtin Builtin._codecs
theorem road8 (id : String) (self : Value) (x : Str) : encodeRoad id self x (Str.ofString "utf-8") none = (do mkBytes (← encodeNarrow id utf8Codec none self x)) := encodeRoad_utf8 id self x none
theorem encode2_tree (x : Str) (t u : Tok) : «str.encode» ⟨[.str x t, .str (Str.ofString "utf-8") u], []⟩ = (do ret (← encodeRoad "str.encode" (.str x t) x (Str.ofString "utf-8") none)) := by kernel_rfl
theorem meets_encode2 {l : List Nat} {t u : Tok} (hb : ∀ c ∈ l, Str.isSurrogate c = false) (hl : l.length ≤ 1000000) :
    Meets («str.encode» ⟨[.str (txt l) t, .str (Str.ofString "utf-8") u], []⟩) (fun _ R s => ∀ t' k, R (.ok (.ret (.bytes (enc l).toArray t'))) { s with toks := k }) := by
  refine .of_wp fun prog w A R s h => ?_
  rw [encode2_tree, road8, narrow hb hl]
  refine wpAny_bind (wpAny_bind (wpAny_pure ?_))
  refine wpAny_mkBytes (wpAny_pure ⟨_, rfl, h _ _⟩) ?_
  have := enc_le l
  rw [sizeLine_eq, List.size_toArray]; omega
theorem decode2_tree (b : Array UInt8) (t u : Tok) (c : UInt8) (cs : List UInt8) (hb : b = (c :: cs).toArray) : «bytes.decode» ⟨[.bytes b t, .str (Str.ofString "utf-8") u], []⟩ = (mkStr (Str.ofString "utf-8") >>= fun _ => mkStr (Str.ofString "utf-8") >>= fun e => mkStr (Str.ofString "bytes.decode") >>= fun d =>
    call (.builtin "_codecs.decode.text") [.bytes b t, e, .none, d] >>= fun v => ret v) := by subst hb; kernel_rfl
theorem args_decode2 (a b : Value) : argsOk "bytes.decode" ⟨[a, b], []⟩ := by
  unfold argsOk; rw [signature?_of (id := "bytes.decode") (n := ['e', 'd', 'o', 'c', 'e', 'd']) (o := ['s', 'e', 't', 'y', 'b']) (by kernel_rfl) FB.owner_bytes]; kernel_rfl
theorem meets_decode2 {l : List Nat} {t u : Tok} {c : UInt8} {cs : List UInt8} (he : enc l = c :: cs) (hs : ∀ c ∈ l, Sign c) (hl : l.length ≤ 1000000) :
    Meets («bytes.decode» ⟨[.bytes (enc l).toArray t, .str (Str.ofString "utf-8") u], []⟩) (fun _ R s => ∀ t' k, R (.ok (.ret (.str (txt l) t'))) { s with toks := k }) := by
  refine .of_wp fun prog w A R s h => ?_
  rw [decode2_tree _ _ _ c cs (by rw [he])]
  refine wpAny_bind (wpAny_mkStr ?_ (by decide))
  refine wpAny_bind (wpAny_mkStr ?_ (by decide))
  refine wpAny_bind (wpAny_mkStr ?_ (by decide))
  exact wpAny_bind (call_function_meets KBd.kind_text KBd.plain_text KBd.entry_text (KBd.args_text _ _ _ _) (KBd.meets_text (x := txt l) (n := (enc l).length) (fun _ => decoded hs hl)) ⟨by rw [str_len_txt, sizeLine_eq]; omega, wpAny_pure ⟨_, rfl, h _ _⟩⟩)
end
section
variable {prog : Program} {w : World} {A : Around} {E : Value → Shared → Prop} {s : Shared} {l : List Nat} {t u : Tok} {Q : Value → Shared → Prop}
theorem encode2 (hb : ∀ c ∈ l, Str.isSurrogate c = false) (hl : l.length ≤ 1000000) (h : ∀ t' k, Q (.bytes (enc l).toArray t') { s with toks := k }) :
    wpAny (model prog w) A (call (.builtin "str.encode") [.str (txt l) t, .str (Str.ofString "utf-8") u]) Q E s :=
  call_meets F.slot_str_encode (typeIs_str _ _ _) F.entry_str_encode (F.args_str_encode_2 _ _) (meets_encode2 hb hl) h
theorem decode2 {c : UInt8} {cs : List UInt8} (he : enc l = c :: cs) (hs : ∀ c ∈ l, Sign c) (hl : l.length ≤ 1000000) (h : ∀ t' k, Q (.str (txt l) t') { s with toks := k }) :
    wpAny (model prog w) A (call (.builtin "bytes.decode") [.bytes (enc l).toArray t, .str (Str.ofString "utf-8") u]) Q E s :=
  call_meets FB.slot_bytes_decode (typeIs_bytes _ _ _) FB.entry_bytes_decode (args_decode2 _ _) (meets_decode2 he hs hl) h
end
end
section
theorem fresh_T4 : True := by w_top off; trivial
theorem enc_method {M : Model} {A : Around} {E : Value → Shared → Prop} {s : Shared} {x : Str} {t : Tok} {pl : Sem Bool} {Q : Value × List Value → Shared → Prop} (h : Q (.builtin "str.encode", [.str x t]) s) : wpAny M A (getMethod (.str x t) "encode" pl) Q E s :=
  getMethod_builtin (typeIs_str _ _ _) F.plainAttrs_str F.slot_str_encode F.type_str_encode (fun _ e => nomatch e) h
theorem encode1 {prog : Program} {w : World} {A : Around} {E : Value → Shared → Prop} {s : Shared} {c : Nat} {t u : Tok} {Q : Value → Shared → Prop} (hc : Sign c) (h : ∀ t' k, Q (.bytes (Str.utf8Of c).toArray t') { s with toks := k }) :
    wpAny (model prog w) A (call (.builtin "str.encode") [.str ⟨#[c]⟩ t, .str (Str.ofString "utf-8") u]) Q E s :=
  encode2 (l := [c]) (fun d hd => (List.mem_singleton.mp hd) ▸ sign_plain hc) (by simp) (by simpa [enc] using h)
theorem encode1' {prog : Program} {w : World} {A : Around} {E : Value → Shared → Prop} {s : Shared} {c : Nat} {t u : Tok} {Q : Value → Shared → Prop} (hc : Sign c) (h : ∀ t' k, Q (.bytes (Str.utf8Of c).toArray t') { s with toks := k }) :
    wpAny (model prog w) A (call (.builtin "str.encode") [.str (txt [c]) t, .str (Str.ofString "utf-8") u]) Q E s := encode1 hc h
theorem pop_txts {prog : Program} {w : World} {A : Around} {E : Value → Shared → Prop} {s : Shared} {h₀ : Heap} {L D : Addr} {m : Str → Option Value} {news news' : List (Addr × Obj)} {lp : List (Str × Tok)} {y : Str} {ty : Tok} {e : Nat} {Q : Value → Shared → Prop}
    (F : Fr h₀ L s.heap m) (N : News h₀ L s.heap news) (U : Upd D (txts (lp ++ [(y, ty)]) e) (txts lp (e + 1)) news news') (hz : lp.length ≤ 100000) (h : ∀ h', Fr h₀ L h' m → News h₀ L h' news' → Q (.str y ty) { s with heap := h' }) :
    wpAny (model prog w) A (call (.builtin "list.pop") [.ref D]) Q E s := by
  refine kl_pop (its := (strValues (lp ++ [(y, ty)])).toArray) (p := strValues lp) (y := .str y ty) F N ?_ U ?_ h
  · have := kpa_last (.str y ty) (strValues lp)
    simpa [strValues] using this
  · rw [sizeLine_eq]; simp [strValues]; omega
theorem in_esc {d : Nat} (h : (Builtin.Str.occurrences (Str.ofString "\\^") (txt [d]) 0 (Str.ofString "\\^").length 1).isEmpty = false) : d = 92 ∨ d = 94 := by
  have := StrLaws.found_one (Str.ofString "\\^") d
  rw [show (txt [d] : Str) = ⟨#[d]⟩ from rfl] at h
  rw [h] at this
  have e : (Str.ofString "\\^").cps.toList = [92, 94] := by decide +kernel
  rw [e] at this
  simpa using this
theorem in_escf {d : Nat} (h : (Builtin.Str.occurrences (Str.ofString "\\^") (txt [d]) 0 (Str.ofString "\\^").length 1).isEmpty = true) : ¬ (d = 92 ∨ d = 94) := by
  have := StrLaws.found_one (Str.ofString "\\^") d
  rw [show (txt [d] : Str) = ⟨#[d]⟩ from rfl] at h
  rw [h] at this
  have e : (Str.ofString "\\^").cps.toList = [92, 94] := by decide +kernel
  rw [e] at this
  simpa using this
theorem fold_end {h₀ h' : Heap} {L ca fa : Addr} {l l' : List (Str × Tok)} {e e' : Nat} {J : (Str → Option Value) → List (Addr × Obj) → Prop} {own news' : List (Addr × Obj)} {m' : Str → Option Value} {s₁ : Shared} {tk : Nat}
    (F : Fr h₀ L h' m') (hl : NoList own) (N : News h₀ L h' news') (h1 : (ca, txts l' e') ∈ news') (h2 : (fa, txts l e) ∈ news') (ho : ∀ p ∈ own, p ∈ news') (hj : J m' [(ca, txts l' e'), (fa, txts l e)]) :
    InvEndG h₀ L J own s₁ { s₁ with heap := h', toks := tk } := by
  have hn : ∀ p ∈ [(ca, txts l' e'), (fa, txts l e)], p ∈ news' := by
    intro p hp
    rcases List.mem_cons.mp hp with rfl | hp
    · exact h1
    · rw [List.mem_singleton.mp hp]; exact h2
  refine InvEndG.intro F N hj (own_off N hl ho fun q hq => ⟨hn q hq, ?_⟩) hn ho
  rcases List.mem_cons.mp hq with rfl | hq
  · rfl
  · rw [List.mem_singleton.mp hq]
local macro_rules | `(tactic| walk_at "getMethod str") => `(tactic| (with_reducible refine enc_method ?_))
local macro_rules | `(tactic| walk_at "call builtin:str.encode") => `(tactic| ((with_reducible refine encode1 (by assumption) ?_); intro _ _))
theorem len_u8 {prog : Program} {w : World} {A : Around} {E : Value → Shared → Prop} {s : Shared} {c : Nat} {t : Tok} {Q : Value → Shared → Prop} (h : Q (.int ((Str.utf8Of c).length : Nat) (s.toks + 1)) { s with toks := s.toks + 1 + 1 }) :
    wpAny (model prog w) A (call (.builtin "len") [.bytes (Str.utf8Of c).toArray t]) Q E s :=
  len_bytes (by have := u8_le c; rw [List.size_toArray]; omega) (by rw [List.size_toArray]; exact h)
local macro_rules | `(tactic| walk_at "call builtin:str.encode") => `(tactic| ((with_reducible refine encode1' (by assumption) ?_); intro _ _))
local macro_rules | `(tactic| walk_at "call builtin:list.pop") => `(tactic| ((refine' pop_txts ?F ?N ?U ?z ?_; (case F => k_asm); (case N => k_asm); (case U => k_upd); (case z => assumption)); intro h' F' N'))
local macro_rules | `(tactic| walk_at "call builtin:len") => `(tactic| (with_reducible refine len_u8 ?_))
local macro_rules | `(tactic| walk_at "call builtin:str.join") => `(tactic| ((with_reducible rename News _ _ _ _ => NJ); (refine SC.join (News.isList NJ (.head _)) (by assumption) (joinOk_chars (by omega)) ?_); intro _ _; (try rw [join_chars])))
theorem TextV.under {s : Shared} {g : Heap} {L : Addr} {v : Value} {x : Str} (V : TextV s.heap v x) (U : Under [] s g L) : TextV g v x := by
  exact V.keeps fun b o e => U.up b o (fun q => nomatch q) e
local macro_rules | `(tactic| walk_at "call builtin:isinstance") => `(tactic| ((rename TextV _ _ _ => VV); (rename Frag.In _ _ => XX); (rename Fr _ _ _ _ => FF); refine isinst_text (XX.keeps FF.keep) (VV.keeps FF.keep) ?_))
local macro_rules | `(tactic| walk_at "compareOp NotIn") => `(tactic| ((rename TextV _ _ _ => VV); (rename Frag.In _ _ => XX); (rename Fr _ _ _ _ => FF); refine notIn_text (XX.keeps FF.keep) (VV.keeps FF.keep) ?_))
/-- a folded line's parts -/
noncomputable def fsGo : List Nat → List Nat → Nat → List (List Nat)
  | [], cur, _ => if cur = [] then [] else [cur]
  | c :: r, cur, n =>
    if cur ≠ [] ∧ 75 ≤ n + (Str.utf8Of c).length then
      if 1 < cur.length ∧ (cur.getLast? = some 92 ∨ cur.getLast? = some 94) then cur.dropLast :: fsGo r [cur.getLast?.getD 0, c] ((Str.utf8Of (cur.getLast?.getD 0)).length + (Str.utf8Of c).length)
      else cur :: fsGo r [c] (Str.utf8Of c).length
    else fsGo r (cur ++ [c]) (n + (Str.utf8Of c).length)
noncomputable def fold (x : List Nat) : List Nat := jn [13, 10, 32] (fsGo x [] 0)
theorem fsGo_flat : ∀ (x cur : List Nat) (n : Nat), (fsGo x cur n).flatten = cur ++ x
  | [], cur, n => by
    unfold fsGo
    split
    · rename_i h; rw [h]; rfl
    · simp
  | c :: r, cur, n => by
    unfold fsGo
    split
    · split
      · rename_i h
        have hc : cur ≠ [] := by intro q; rw [q] at h; simp at h
        obtain ⟨p, d, rfl⟩ : ∃ p d, cur = p ++ [d] := ⟨cur.dropLast, cur.getLast hc, (List.dropLast_concat_getLast hc).symm⟩
        rw [List.flatten_cons, fsGo_flat r, List.dropLast_concat, List.getLast?_concat]
        simp
      · rw [List.flatten_cons, fsGo_flat r]; simp
    · rw [fsGo_flat r]; simp
theorem sum_lens : ∀ ls : List (List Nat), ((ls.map txt).map (·.length)).sum = ls.flatten.length
  | [] => rfl
  | a :: r => by rw [List.map_cons, List.map_cons, List.sum_cons, sum_lens r, str_len_txt, List.flatten_cons, List.length_append]
theorem ofs_crnlsp : Str.ofString "\x0d\n " = txt [13, 10, 32] := by decide +kernel
theorem fold_fits {x : List Nat} {out : List (List Nat)} (hx : x.length ≤ 1000) (h : out = fsGo x [] 0) (hl : out.length ≤ 2000) : JoinOk (txt [13, 10, 32]) (out.map txt) = true := by
  have := fsGo_flat x [] 0
  rw [← h] at this
  refine joinOk_of_weight ?_ (by decide)
  rw [sum_lens, this, List.length_map]
  simp; omega
theorem last_char {l : List (Str × Tok)} {cur : List Nat} (h : l.map (·.1) = cur.map (fun c => txt [c])) (hl : (strValues l).isEmpty = false) : ∃ lp ty cp d, l = lp ++ [(txt [d], ty)] ∧ cur = cp ++ [d] ∧ lp.map (·.1) = cp.map (fun c => txt [c]) := by
  have hn : l ≠ [] := by intro q; subst q; cases hl
  obtain ⟨lp, ⟨y, ty⟩, rfl⟩ : ∃ r c, l = r ++ [c] := ⟨l.dropLast, l.getLast hn, (List.dropLast_concat_getLast hn).symm⟩
  have hc : cur ≠ [] := by intro q; subst q; simp at h
  obtain ⟨cp, d, rfl⟩ : ∃ r c, cur = r ++ [c] := ⟨cur.dropLast, cur.getLast hc, (List.dropLast_concat_getLast hc).symm⟩
  rw [List.map_append, List.map_append] at h
  have := List.append_inj' h rfl
  obtain ⟨h1, h2⟩ := this
  simp only [List.map_cons, List.map_nil, List.cons.injEq, and_true] at h2
  exact ⟨lp, ty, cp, d, by rw [h2], rfl, h1⟩
theorem fo1 {n a i : Nat} (h : n ≤ 4 * i) (h2 : a ≤ 4) : n + a ≤ 4 * (i + 1) := Nat.add_le_add h h2
theorem fo2 {a i : Nat} (h : a ≤ 4) : a ≤ 4 * (i + 1) := Nat.le_trans h (Nat.le_add_left 4 (4 * i))
theorem fo4 {n a : Nat} (h : (75 : Int) ≤ (n : Int) + (a : Int)) : 75 ≤ n + a := Int.ofNat_le.mp h
theorem fo3 {n a b i : Nat} (h : n ≤ 4 * i) (h2 : (75 : Int) ≤ (n : Int) + (a : Int)) (ha : a ≤ 4) (hb : b ≤ 4) : b + a ≤ 4 * (i + 1) := by have := fo4 h2; omega
theorem fo5 {n a : Nat} {P : Prop} (h : ¬ (75 : Int) ≤ (n : Int) + (a : Int)) (q : P ∧ 75 ≤ n + a) : False := h (Int.ofNat_le.mpr q.2)
noncomputable def FoldJ (x : List Nat) : Nat → (Str → Option Value) → List (Addr × Obj) → Prop := fun i m news =>
  m (Str.ofString "limit") = some (.int 75 465) ∧ m (Str.ofString "fold_sep") = some (.str (Str.ofString "\x0d\n ") 466) ∧
  ∃ (fa ca : Addr) (l l' : List (Str × Tok)) (e e' : Nat) (z : Int) (tz : Tok) (cur : List Nat) (n : Nat) (out : List (List Nat)),
    m (Str.ofString "folded_lines") = some (.ref fa) ∧ m (Str.ofString "current_chars") = some (.ref ca) ∧ m (Str.ofString "byte_count") = some (.int z tz) ∧ z = n ∧
    news = [(ca, txts l' e'), (fa, txts l e)] ∧ @Ne Nat ca fa ∧ l.map (·.1) = out.map txt ∧ l'.map (·.1) = cur.map (fun c => txt [c]) ∧ out.length ≤ i ∧ cur.length ≤ i ∧ n ≤ 4 * i ∧ (∀ c ∈ cur, c ∈ x) ∧ out ++ fsGo (x.drop i) cur n = fsGo x [] 0
set_option maxHeartbeats 8000000 in
theorem fold_spec {w : World} {mean : ExcName → Option Value} {mg mb : Str → Option Value} {h₀ : Heap} {s : Shared} {A : Around} {Q E : Value → Shared → Prop}
  {x : List Nat} {v₀ : Value}
  (S : Sits w mean mg mb h₀ s.heap) (V : TextV s.heap v₀ (txt x)) (hx : x.length ≤ 1000) (hnl : 10 ∉ x) (hs : ∀ c ∈ x, Sign c) (hd : A.depth + 1 < recursionLimit) (hu : A.units + 8 < cLine) (hA : A.handled = none)
  (hret : ∀ v h' tk', (∃ t', v = .str (txt (fold x)) t') → Grew [] s.heap h' → Q v { s with heap := h', toks := tk' }) :
  wpAny (model PySem.Challenge.pw_be0022_01 w) A (call (.ref 186) [v₀]) Q E s := by
  have hocc : (!!(Builtin.Str.occurrences (txt x) (Str.ofString "\n") 0 (txt x).length 1).isEmpty) = true := by
    have := StrLaws.found_one (txt x) 10
    rw [ofs_nl]
    rw [show (txt [10] : Str) = ⟨#[10]⟩ from rfl, this]
    simp [txt, hnl]
  have hlen : (txt x).length = x.length := str_len_txt x
  (have Dz := dum; revert Dz; k_fill; intro Dz; clear Dz)
  refine wpAny_call ?_
  (k_dflt (refine' enter _ ?k1 ?kb ?k6 ?k7 ?k8 ?k9 ?kl ?_ ?c2 ?c3 ?c4 ?c5; (case k1 => k_asm); (case kb => first | assumption | exact List.forall_mem_nil _); (case k6 => k_is); (case k7 => k_is); (case k8 => omega); (case k9 => first | exact BindsTo.of_eq rfl | (refine' binds_K (K := Mine.hd.heap_1 _) (Frag.In.keeps (Sits.X (by assumption)) (Sits.keep (by assumption))) rfl ?kd ?kr1 ?kr2 ?kr3; (case kd => k_is); (case kr1 => exact rfl); (case kr2 => exact rfl); (case kr3 => exact rfl))); (case c2 => decide); (case kl => exact locs rfl); (case c3 => exact rfl); (case c4 => exact rfl); (case c5 => exact rfl); k_whole); intro _ _ _ _ _ _ _ _; (try dsimp only); (try k_fold))
  (with_reducible rename Under _ _ _ _ => UV)
  have V' := V.under UV
  (repeat' (first | (k_unfold; (try dsimp only)) | ((fail_if_success with_reducible (first | refine st0 ?_ | refine st1 ?_ | refine st2 ?_ | refine st3 ?_ | refine st4 ?_ | refine st5 ?_ | refine st6 ?_ | refine st7 ?_ | refine st8 ?_ | refine st11 ?_)); walk1) | (dsimp only; (fail_if_success with_reducible (first | refine st0 ?_ | refine st1 ?_ | refine st2 ?_ | refine st3 ?_ | refine st4 ?_ | refine st5 ?_ | refine st6 ?_ | refine st7 ?_ | refine st8 ?_ | refine st11 ?_)); walk1) | (leave1; (try dsimp only)) | dsimp only | fail "no step"))
  rename Fr _ _ _ _ => F1
  rename News _ _ _ _ => N1
  refine' For_invVF F1 rfl rfl ?_
  (repeat' (first | (k_unfold; (try dsimp only)) | ((fail_if_success with_reducible (first | refine st0 ?_ | refine st1 ?_ | refine st2 ?_ | refine st3 ?_ | refine st4 ?_ | refine st5 ?_ | refine st6 ?_ | refine st7 ?_ | refine st8 ?_ | refine st11 ?_)); walk1) | (dsimp only; (fail_if_success with_reducible (first | refine st0 ?_ | refine st1 ?_ | refine st2 ?_ | refine st3 ?_ | refine st4 ?_ | refine st5 ?_ | refine st6 ?_ | refine st7 ?_ | refine st8 ?_ | refine st11 ?_)); walk1) | (leave1; (try dsimp only)) | dsimp only | fail "no step"))
  rename Fr _ _ _ _ => F1
  rename News _ _ _ _ => N1
  rename Frag.In _ _ => XV
  rename TextV _ _ _ => V1
  refine' iter_textV (FoldJ x) hA XV V1 F1 N1 ?j0 ?turn ?done
  case j0 => exact ⟨rfl, rfl, _, _, [], [], _, _, _, _, [], 0, [], rfl, rfl, rfl, rfl, rfl, by omega, rfl, rfl, Nat.le_refl _, Nat.le_refl _, Nat.le_refl _, fun _ h => (nomatch h), rfl⟩
  case turn =>
    rintro i c tc m₁ nx h₁ tk₁ own hc hno hoff ⟨e1, e2, fa, ca, l, l', e, e', z, tz, cur, n, out, e3, e4, e5, rfl, rfl, e6, e7, e8, e9, e10, e11, e12, e13⟩ F2 N2
    clear F1 N1
    have hi : i < x.length := by
      have := (Array.getElem?_eq_some_iff.mp hc).1
      simpa [txt] using this
    have hll : (strValues l).length ≤ 1000 := by have := congrArg List.length e7; simp only [List.length_map] at this; simp only [strValues, List.length_map]; omega
    have hll' : (strValues l').length ≤ 1000 := by have := congrArg List.length e8; simp only [List.length_map] at this; simp only [strValues, List.length_map]; omega
    have hsc : Sign c := hs c (by have := Array.mem_of_getElem? hc; simpa [txt] using this)
    rw [← if_at4 e1 e3 e4 e5] at F2
    dsimp only at F2
    simp only [List.cons_append, List.nil_append] at N2
    simp only [List.map_cons, List.map_nil] at hoff
    have hdr : x.drop i = c :: x.drop (i + 1) := by have := drop_at hc; simpa [cps, txt] using this
    have hcx : c ∈ x := List.mem_of_mem_drop (i := i) (hdr ▸ .head _)
    try k_fold
    (repeat' (first | (k_unfold; (try dsimp only)) | ((fail_if_success with_reducible (first | refine st0 ?_ | refine st1 ?_ | refine st2 ?_ | refine st3 ?_ | refine st4 ?_ | refine st5 ?_ | refine st6 ?_ | refine st7 ?_ | refine st8 ?_ | refine st11 ?_)); walk1) | (dsimp only; (fail_if_success with_reducible (first | refine st0 ?_ | refine st1 ?_ | refine st2 ?_ | refine st3 ?_ | refine st4 ?_ | refine st5 ?_ | refine st6 ?_ | refine st7 ?_ | refine st8 ?_ | refine st11 ?_)); walk1) | (leave1; (try dsimp only)) | dsimp only | fail "no step"))
    · rename (strValues l').isEmpty = true => f1
      rename News _ _ _ _ => N9
      have hcur : cur = [] := by
        have := congrArg List.length e8
        rw [List.isEmpty_iff] at f1
        have f2 := congrArg List.length f1
        simp only [strValues, List.length_map, List.length_nil] at this f2
        exact List.eq_nil_of_length_eq_zero (by omega)
      rw [hdr, fsGo, if_neg (fun q => q.1 hcur)] at e13
      rw [txts_push] at N9
      rename Fr _ _ _ _ => F9
      refine fold_end F9 hno N9 (.head _) (.tail _ (.head _)) (fun p hp => .tail _ (.tail _ hp)) ⟨rfl, e2, fa, ca, l, _, e, _, _, _, cur ++ [c], n + (Str.utf8Of c).length, out, rfl, rfl, rfl, by omega, rfl, e6, e7, ?_, ol10 e9, ?_, fo1 e11 (u8_le c), ?_, e13⟩
      · rw [List.map_append, List.map_append, e8]; rfl
      · rw [List.length_append]; simp; omega
      · intro d hd; rcases List.mem_append.mp hd with h | h
        · exact e12 d h
        · rw [List.mem_singleton.mp h]; exact hcx
    · rename (strValues l').isEmpty = false => f1
      rename 75 ≤ _ => f2
      rename News _ _ _ _ => N9
      obtain ⟨lp, ty, cp, d, rfl, rfl, e8'⟩ := last_char e8 f1
      have hlp : lp.length ≤ 100000 := by simp [strValues] at hll'; omega
      have hcp : cp.length ≤ 1000 := by rw [List.length_append] at e10; omega
      have hdx : d ∈ x := e12 d (by simp)
      have hsd : Sign d := hs d hdx
      have hcl := congrArg List.length e8'
      simp only [List.length_map] at hcl
      have hsz9 : ((strValues (lp ++ [(txt [d], ty)])).toArray.size : Int) = (cp.length : Int) + 1 := by simp [strValues, hcl]
      refine len_list (News.isList N9 (.head _)) (by simp [strValues] at hll' ⊢; omega) ?_
      (repeat' (first | (k_unfold; (try dsimp only)) | ((fail_if_success with_reducible (first | refine st0 ?_ | refine st1 ?_ | refine st2 ?_ | refine st3 ?_ | refine st4 ?_ | refine st5 ?_ | refine st6 ?_ | refine st7 ?_ | refine st8 ?_ | refine st11 ?_)); walk1) | (dsimp only; (fail_if_success with_reducible (first | refine st0 ?_ | refine st1 ?_ | refine st2 ?_ | refine st3 ?_ | refine st4 ?_ | refine st5 ?_ | refine st6 ?_ | refine st7 ?_ | refine st8 ?_ | refine st11 ?_)); walk1) | (leave1; (try dsimp only)) | dsimp only | fail "no step"))
      · refine kde_neg (j := lp.length) (v := .str (txt [d]) ty) (News.isList N9 (.head _)) (by decide) (by decide) ?_ ?_ ?_
        · simp [seqIndex?, strValues]; omega
        · simp [strValues]
        rename 1 < _ => f3
        rw [hsz9] at f3
        (repeat' (first | (k_unfold; (try dsimp only)) | ((fail_if_success with_reducible (first | refine st0 ?_ | refine st1 ?_ | refine st2 ?_ | refine st3 ?_ | refine st4 ?_ | refine st5 ?_ | refine st6 ?_ | refine st7 ?_ | refine st8 ?_ | refine st11 ?_)); walk1) | (dsimp only; (fail_if_success with_reducible (first | refine st0 ?_ | refine st1 ?_ | refine st2 ?_ | refine st3 ?_ | refine st4 ?_ | refine st5 ?_ | refine st6 ?_ | refine st7 ?_ | refine st8 ?_ | refine st11 ?_)); walk1) | (leave1; (try dsimp only)) | dsimp only | fail "no step"))
        · rename (Builtin.Str.occurrences _ _ _ _ _).isEmpty = true => f4
          rename News _ _ _ _ => N7
          rename Fr _ _ _ _ => F7
          have hd9 := in_escf f4
          rw [hdr, fsGo, if_pos ⟨by simp, fo4 f2⟩, if_neg (fun q => hd9 (by simpa using q.2))] at e13
          rw [txts_push] at N7
          refine fold_end (l' := [(⟨#[c]⟩, tc)]) F7 hno N7 (.head _) (.tail _ (.tail _ (.head _))) (fun p hp => .tail _ (.tail _ (.tail _ hp))) ⟨rfl, e2, fa, _, _, [(⟨#[c]⟩, tc)], _, _, _, _, [c], (Str.utf8Of c).length, out ++ [cp ++ [d]], rfl, rfl, rfl, by omega, rfl, by omega, ?_, rfl, ?_, by simp, fo2 (u8_le c), ?_, ?_⟩
          · rw [List.map_append, List.map_append, e7]; rfl
          · rw [List.length_append]; simp; omega
          · intro d hd; rw [List.mem_singleton.mp hd]; exact hcx
          · rw [← e13]; simp
        · rename (Builtin.Str.occurrences _ _ _ _ _).isEmpty = false => f4
          rename News _ _ _ _ => N7
          rename Fr _ _ _ _ => F7
          have hd9 := in_esc f4
          rw [hdr, fsGo, if_pos ⟨by simp, fo4 f2⟩, if_pos ⟨by rw [List.length_append]; simp; omega, by simpa using hd9⟩, List.dropLast_concat, List.getLast?_concat] at e13
          rw [txts_push] at N7
          refine fold_end (l' := [(txt [d], ty), (⟨#[c]⟩, tc)]) F7 hno N7 (.head _) (.tail _ (.tail _ (.head _))) (fun p hp => .tail _ (.tail _ (.tail _ hp))) ⟨rfl, e2, fa, _, _, [(txt [d], ty), (⟨#[c]⟩, tc)], _, _, _, _, [d, c], (Str.utf8Of d).length + (Str.utf8Of c).length, out ++ [cp], rfl, rfl, rfl, by omega, rfl, by omega, ?_, rfl, ?_, ?_, fo3 e11 f2 (u8_le c) (u8_le d), ?_, ?_⟩
          · rw [List.map_append, List.map_append, e7]; rfl
          · rw [List.length_append]; simp; omega
          · rw [List.length_append] at e10; simp at e10 ⊢; omega
          · intro b hb
            rcases List.mem_cons.mp hb with rfl | hb
            · exact hdx
            · rw [List.mem_singleton.mp hb]; exact hcx
          · rw [← e13]; simp
      · rename ¬ 1 < _ => f3
        rename News _ _ _ _ => N7
        rename Fr _ _ _ _ => F7
        rw [hsz9] at f3
        rw [hdr, fsGo, if_pos ⟨by simp, fo4 f2⟩, if_neg (fun q => f3 (by have := q.1; rw [List.length_append] at this; simp at this; omega))] at e13
        rw [txts_push] at N7
        refine fold_end (l' := [(⟨#[c]⟩, tc)]) F7 hno N7 (.head _) (.tail _ (.tail _ (.head _))) (fun p hp => .tail _ (.tail _ (.tail _ hp))) ⟨rfl, e2, fa, _, _, [(⟨#[c]⟩, tc)], _, _, _, _, [c], (Str.utf8Of c).length, out ++ [cp ++ [d]], rfl, rfl, rfl, by omega, rfl, by omega, ?_, rfl, ?_, by simp, fo2 (u8_le c), ?_, ?_⟩
        · rw [List.map_append, List.map_append, e7]; rfl
        · rw [List.length_append]; simp; omega
        · intro d hd; rw [List.mem_singleton.mp hd]; exact hcx
        · rw [← e13]; simp
    · rename (strValues l').isEmpty = false => f1
      rename ¬ 75 ≤ _ => f2
      rename News _ _ _ _ => N9
      rename Fr _ _ _ _ => F9
      rw [hdr, fsGo, if_neg (fo5 f2)] at e13
      rw [txts_push] at N9
      refine fold_end F9 hno N9 (.head _) (.tail _ (.head _)) (fun p hp => .tail _ (.tail _ hp)) ⟨rfl, e2, fa, ca, l, _, e, _, _, _, cur ++ [c], n + (Str.utf8Of c).length, out, rfl, rfl, rfl, by omega, rfl, e6, e7, ?_, ol10 e9, ?_, fo1 e11 (u8_le c), ?_, e13⟩
      · rw [List.map_append, List.map_append, e8]; rfl
      · rw [List.length_append]; simp; omega
      · intro d hd; rcases List.mem_append.mp hd with h | h
        · exact e12 d h
        · rw [List.mem_singleton.mp h]; exact hcx
  case done =>
    clear F1 N1
    rintro m₁ nx h₁ tk₁ ⟨e1, e2, fa, ca, l, l', e, e', z, tz, cur, n, out, e3, e4, e5, rfl, rfl, e6, e7, e8, e9, e10, e11, e12, e13⟩ F2 N2
    rw [List.drop_eq_nil_of_le (by rw [hlen]; exact Nat.le_refl _)] at e13
    have hlen' : (txt x).length ≤ 1000 := by omega
    have hll : (strValues l).length ≤ 1000 := by have := congrArg List.length e7; simp only [List.length_map] at this; simp only [strValues, List.length_map]; omega
    have hll' : (strValues l').length ≤ 1000 := by have := congrArg List.length e8; simp only [List.length_map] at this; simp only [strValues, List.length_map]; omega
    rw [← if_at4 e2 e3 e4 e5] at F2
    dsimp only at F2
    try k_fold
    (repeat' (first | (k_unfold; (try dsimp only)) | ((fail_if_success with_reducible (first | refine st0 ?_ | refine st1 ?_ | refine st2 ?_ | refine st3 ?_ | refine st4 ?_ | refine st5 ?_ | refine st6 ?_ | refine st7 ?_ | refine st8 ?_ | refine st11 ?_)); walk1) | (dsimp only; (fail_if_success with_reducible (first | refine st0 ?_ | refine st1 ?_ | refine st2 ?_ | refine st3 ?_ | refine st4 ?_ | refine st5 ?_ | refine st6 ?_ | refine st7 ?_ | refine st8 ?_ | refine st11 ?_)); walk1) | (leave1; (try dsimp only)) | dsimp only | fail "no step"))
    · rename (strValues l').isEmpty = true => f1
      rename News _ _ _ _ => N9
      have hcur : cur = [] := by
        have := congrArg List.length e8
        rw [List.isEmpty_iff] at f1
        have f2 := congrArg List.length f1
        simp only [strValues, List.length_map, List.length_nil] at this f2
        exact List.eq_nil_of_length_eq_zero (by omega)
      rw [hcur, fsGo, if_pos rfl, List.append_nil] at e13
      rw [ofs_crnlsp]
      refine SC.join (News.isList N9 (.tail _ (.head _))) e7 (fold_fits hx e13 (by omega)) ?_
      intro t9 k9
      rw [join_txt, e13]
      dsimp only
      k_unfold
      refine hret _ _ _ ⟨_, rfl⟩ (by (with_reducible rename Under _ _ _ _ => U9); (with_reducible rename Fr _ _ _ _ => F9); exact U9.grew F9)
    · rename (strValues l').isEmpty = false => f1
      rename News _ _ _ _ => N9
      rename Fr _ _ _ _ => F9
      have hcur : cur ≠ [] := by
        intro q; subst q
        have := congrArg List.length e8
        simp only [List.length_map, List.length_nil] at this
        have q := List.eq_nil_of_length_eq_zero this
        subst q; cases f1
      rw [fsGo, if_neg hcur] at e13
      rw [txts_push] at N9
      rw [ofs_crnlsp]
      have e7' : ∀ t : Tok, (l ++ [(txt cur, t)]).map (·.1) = (out ++ [cur]).map txt := fun t => by rw [List.map_append, e7, List.map_append]; rfl
      refine SC.join (News.isList N9 (.tail _ (.head _))) (e7' _) (fold_fits hx e13 (by rw [List.length_append]; simp; omega)) ?_
      intro t9 k9
      rw [join_txt, e13]
      dsimp only
      k_unfold
      refine hret _ _ _ ⟨_, rfl⟩ (by (with_reducible rename Under _ _ _ _ => U9); exact U9.grew F9)
end
section
theorem fresh_Sr : True := by w_top off; trivial
open PySem.Sre PySem.Sre.M
noncomputable def its : Nat → M → M
  | 0, m => m
  | n + 1, m => its n m.step
theorem its_add (a b : Nat) (m : M) : its (a + b) m = its b (its a m) := by
  induction a generalizing m with
  | zero => rw [Nat.zero_add]; rfl
  | succ a ih => rw [Nat.succ_add]; exact ih m.step
theorem step_done {m : M} (h : m.outcome.isSome = true) : m.step = m := by
  unfold M.step; rw [if_pos h]
theorem its_done {m : M} (h : m.outcome.isSome = true) : ∀ n, its n m = m
  | 0 => rfl
  | n + 1 => by rw [its, step_done h]; exact its_done h n
theorem runFor_its : ∀ n (m : M), m.runFor n = its n m
  | 0, m => rfl
  | n + 1, m => by
    unfold M.runFor
    by_cases h : m.outcome.isSome = true
    · rw [if_pos h, its_done h]
    · rw [if_neg h, its]; exact runFor_its n m.step
/-- a machine's state, all told -/
noncomputable def mk (C T : Array Nat) (start ls pc pos hd : Nat) (om : Bool) (loops : Array Sre.Loop) (inner : Option Nat) (fr : List Sre.Frame) (wt : Nat) (an : Option Bool) (se : Sre.Seen) : M :=
  { code := C, text := T, lim := T.size, start := start, lastStart := ls, wholeText := false, mustAdvance := false, pc := pc, pos := pos, handed := hd, outermost := om, marks := #[], lastmark := -1, lastindex := -1,
    loops := loops, inner := inner, frames := fr, weight := wt, answer := an, seen := se, outcome := none }
section
variable {C T : Array Nat} {start ls pc pos hd : Nat} {om : Bool} {loops : Array Sre.Loop} {inner : Option Nat} {fr : List Sre.Frame} {wt : Nat} {se : Sre.Seen}
theorem step_exec (h : pc < C.size) : (mk C T start ls pc pos hd om loops inner fr wt none se).step = (mk C T start ls pc pos hd om loops inner fr wt none se).exec := by
  unfold M.step
  rw [if_neg (by simp [mk])]
  show (if pc < C.size then _ else _) = _
  rw [if_pos h]
theorem lit_no {c : Nat} (h : pc < C.size) (h0 : C.getD pc 0 = 16) (h1 : C.getD (pc + 1) 0 = c) (hn : T.size ≤ pos ∨ T.getD pos 0 ≠ c) :
    ∃ se', (mk C T start ls pc pos hd om loops inner fr wt none se).step = mk C T start ls pc pos hd om loops inner fr wt (some false) se' := by
  rw [step_exec h]
  have oo : Sre.ops[16]? = some .LITERAL := rfl
  unfold M.exec
  simp only [mk, M.word, Nat.add_zero, h0, oo]
  show ∃ se', (if pos ≥ T.size then _ else _) = _
  by_cases hp : T.size ≤ pos
  · rw [if_pos hp]
    exact ⟨_, rfl⟩
  · rw [if_neg hp]
    have hc : T.getD pos 0 ≠ c := hn.resolve_left hp
    have ha : ∀ se, accepts C pc (T.getD pos 0) se = .ok (false, se) := by
      intro se
      unfold accepts
      simp only [h0, h1, oo]
      show Except.ok (T.getD pos 0 == c, se) = _
      rw [beq_eq_false_iff_ne.mpr hc]
    simp only [ha]
    exact ⟨_, rfl⟩
theorem lit_yes {c : Nat} (h : pc < C.size) (h0 : C.getD pc 0 = 16) (h1 : C.getD (pc + 1) 0 = c) (hp : pos < T.size) (hc : T.getD pos 0 = c) :
    ∃ se', (mk C T start ls pc pos hd om loops inner fr wt none se).step = mk C T start ls (pc + 2) (pos + 1) hd om loops inner fr wt none se' := by
  rw [step_exec h]
  have oo : Sre.ops[16]? = some .LITERAL := rfl
  unfold M.exec
  simp only [mk, M.word, Nat.add_zero, h0, oo]
  show ∃ se', (if pos ≥ T.size then _ else _) = _
  rw [if_neg (by omega)]
  have ha : ∀ se, accepts C pc (T.getD pos 0) se = .ok (true, se) := by
    intro se
    unfold accepts
    simp only [h0, h1, oo]
    show Except.ok (T.getD pos 0 == c, se) = _
    rw [beq_iff_eq.mpr hc]
  have hw : itemWidth C pc = 2 := by unfold itemWidth; simp only [h0, oo]
  simp only [ha, hw]
  exact ⟨_, rfl⟩
theorem succ_yes (h : pc < C.size) (h0 : C.getD pc 0 = 1) :
    ∃ se', (mk C T start ls pc pos hd om loops inner fr wt none se).step = mk C T start ls pc pos pos om loops inner fr wt (some true) se' := by
  rw [step_exec h]
  have oo : Sre.ops[1]? = some .SUCCESS := rfl
  unfold M.exec
  simp only [mk, M.word, Nat.add_zero, h0, oo]
  show ∃ se', (if (om && ((false && (pos != T.size)) || (false && (pos == start)))) = true then _ else _) = _
  rw [if_neg (by simp)]
  exact ⟨_, rfl⟩
/-- the frame that a try leaves -/
noncomputable def fgb (pc pos : Nat) (om : Bool) (n : Int) (kept : Sre.Kept) : Sre.Frame := { wait := .giveBack, pc := pc, pos := pos, outermost := om, count := n, kept := kept }
/-- one optional sign -/
noncomputable def opt (T : Array Nat) (c p : Nat) : Nat := if p < T.size ∧ T.getD p 0 = c then 1 else 0
noncomputable def kp (b : Bool) : Sre.Kept := { lastmark := -1, lastindex := -1, whole := b, marks := #[] }
theorem rep_one {c o : Nat} (h : pc < C.size) (h0 : C.getD pc 0 = 24) (h1 : C.getD (pc + 1) 0 = o) (h2 : C.getD (pc + 2) 0 = 0) (h3 : C.getD (pc + 3) 0 = 1) (h4 : C.getD (pc + 4) 0 = 16) (h5 : C.getD (pc + 5) 0 = c)
    (hp : pos ≤ T.size) (hw : wt < 10000000) :
    ∃ se' hd', (mk C T start ls pc pos hd om loops inner fr wt none se).step =
      mk C T start ls (pc + 1 + o) (pos + opt T c pos) hd' om loops inner (fgb pc (pos + opt T c pos) om (opt T c pos) (kp inner.isSome) :: fr) (wt + 1) none se' := by
  have oo : Sre.ops[16]? = some .LITERAL := rfl
  have ha : ∀ d se, accepts C (pc + 4) d se = .ok (d == c, se) := by
    intro d se
    unfold accepts
    simp only [h4, h5, Nat.add_assoc, oo]
  have hr : ∀ se, Sre.run C T (pc + 4) (min 1 ((T.size : Int) - (pos : Int)).toNat) pos 0 se = .ok (opt T c pos, se) := by
    intro se
    by_cases hl : pos < T.size
    · have e : min 1 ((T.size : Int) - (pos : Int)).toNat = 1 := by omega
      rw [e]
      unfold Sre.run
      simp only [ha]
      by_cases hc : T.getD pos 0 = c
      · simp only [opt, hl, hc, beq_self_eq_true, and_self, if_true, bind, Except.bind]
        rfl
      · simp only [opt, hl, hc, and_false, if_false, bind, Except.bind, beq_eq_false_iff_ne.mpr hc, Bool.false_eq_true]
        rfl
    · have e : min 1 ((T.size : Int) - (pos : Int)).toNat = 0 := by omega
      rw [e, opt, if_neg (fun q => hl q.1)]
      rfl
  rw [step_exec h]
  unfold M.exec
  have o24 : Sre.ops[24]? = some .REPEAT_ONE := rfl
  have hz : ∀ b, (if b = true then (#[] : Array (Option Nat)).extract 0 ((-1 : Int) + 1).toNat else #[]) = #[] := by intro b; cases b <;> rfl
  have hgt : ¬ (((0 : Nat) : Int) > (T.size : Int) - (pos : Int)) := by omega
  simp only [mk, M.word, Nat.add_zero, h0, h2, h3, o24, if_neg hgt, Bool.false_eq_true, if_false, hr]
  rw [if_neg (by omega)]
  simp only [M.afterRun, M.attempt, M.frame, M.keep, hz, M.word, h1, Nat.add_zero]
  rw [if_neg (by simp; omega)]
  exact ⟨_, _, rfl⟩
theorem in_no {o : Nat} (h : pc < C.size) (h0 : C.getD pc 0 = 13) (h1 : C.getD (pc + 1) 0 = o) (ha : T.size ≤ pos ∨ ∀ se, ∃ se', inSet C (T.getD pos 0) C.size (pc + 2) true se = .ok (false, se')) :
    ∃ se', (mk C T start ls pc pos hd om loops inner fr wt none se).step = mk C T start ls pc pos hd om loops inner fr wt (some false) se' := by
  rw [step_exec h]
  unfold M.exec
  have o13 : Sre.ops[13]? = some .IN := rfl
  by_cases hp : T.size ≤ pos
  · simp only [mk, M.word, Nat.add_zero, h0, o13, if_pos (show pos ≥ T.size from hp)]
    exact ⟨_, rfl⟩
  · obtain ⟨se', hs⟩ := (ha.resolve_left hp) (se.add 13)
    have hac : accepts C pc (T.getD pos 0) (se.add 13) = .ok (false, se') := by
      unfold accepts
      simp only [h0, o13]
      exact hs
    simp only [mk, M.word, Nat.add_zero, h0, o13, if_neg (show ¬ pos ≥ T.size from hp), hac]
    exact ⟨_, rfl⟩
theorem in_yes {o : Nat} (h : pc < C.size) (h0 : C.getD pc 0 = 13) (h1 : C.getD (pc + 1) 0 = o) (hp : pos < T.size) (ha : ∀ se, ∃ se', inSet C (T.getD pos 0) C.size (pc + 2) true se = .ok (true, se')) :
    ∃ se', (mk C T start ls pc pos hd om loops inner fr wt none se).step = mk C T start ls (pc + 1 + o) (pos + 1) hd om loops inner fr wt none se' := by
  rw [step_exec h]
  unfold M.exec
  have o13 : Sre.ops[13]? = some .IN := rfl
  obtain ⟨se', hs⟩ := ha (se.add 13)
  have hac : accepts C pc (T.getD pos 0) (se.add 13) = .ok (true, se') := by
    unfold accepts
    simp only [h0, o13]
    exact hs
  have hw : itemWidth C pc = 1 + o := by unfold itemWidth; simp only [h0, o13, h1]
  simp only [mk, M.word, Nat.add_zero, h0, o13, if_neg (show ¬ pos ≥ T.size by omega), hac, hw]
  exact ⟨_, by rw [Nat.add_assoc]⟩
theorem step_resume {b : Bool} {f : Sre.Frame} : (mk C T start ls pc pos hd om loops inner (f :: fr) wt (some b) se).step =
    M.resume (mk C T start ls f.pc f.pos hd f.outermost loops inner fr (wt - (1 + f.kept.marks.size)) none se) f b := by
  unfold M.step
  rw [if_neg (by simp [mk])]
  rfl
theorem gb_yes {p q : Nat} {o2 : Bool} {n : Int} {b : Bool} : (mk C T start ls pc pos hd om loops inner (fgb p q o2 n (kp b) :: fr) (wt + 1) (some true) se).step = mk C T start ls p q hd o2 loops inner fr wt (some true) se := by
  rw [step_resume]
  rfl
theorem put_back {m : M} {b : Bool} (h1 : m.lastmark = -1) (h2 : m.lastindex = -1) (h3 : m.marks = #[]) : m.putBack (kp b) = m := by
  cases m
  subst h1 h2 h3
  cases b <;> rfl
theorem gb_no0 {p q : Nat} {o2 : Bool} {b : Bool} (h2 : C.getD (p + 2) 0 = 0) : (mk C T start ls pc pos hd om loops inner (fgb p q o2 (0 : Nat) (kp b) :: fr) (wt + 1) (some false) se).step = mk C T start ls p q hd o2 loops inner fr wt (some false) se := by
  rw [step_resume]
  unfold M.resume
  simp only [fgb]
  rw [put_back rfl rfl rfl]
  simp only [mk, M.word, h2, Bool.false_eq_true, if_false]
  rw [if_pos (by decide)]
  rfl
theorem gb_no1 {p q o : Nat} {o2 : Bool} {b : Bool} (h1 : C.getD (p + 1) 0 = o) (h2 : C.getD (p + 2) 0 = 0) (hw : wt < 10000000) :
    (mk C T start ls pc pos hd om loops inner (fgb p (q + 1) o2 (1 : Nat) (kp b) :: fr) (wt + 1) (some false) se).step = mk C T start ls (p + 1 + o) q q o2 loops inner (fgb p q o2 (0 : Nat) (kp b) :: fr) (wt + 1) none se := by
  rw [step_resume]
  unfold M.resume
  simp only [fgb]
  rw [put_back rfl rfl rfl]
  simp only [mk, M.word, h2, Bool.false_eq_true, if_false]
  rw [if_neg (by decide)]
  simp only [M.afterRun, M.attempt, M.frame, M.word, h1, kp]
  rw [if_neg (by simp; omega)]
  rfl
end
section
variable {C T : Array Nat} {start ls pc pos hd : Nat} {om : Bool} {loops : Array Sre.Loop} {inner : Option Nat} {fr : List Sre.Frame} {wt : Nat} {se : Sre.Seen}
/-- the machine says no, within k steps -/
noncomputable def FinNo (C T : Array Nat) (start ls : Nat) (loops : Array Sre.Loop) (inner : Option Nat) (fr : List Sre.Frame) (wt k : Nat) (m : M) : Prop :=
  ∃ k' pc pos hd om se, k' ≤ k ∧ its k' m = mk C T start ls pc pos hd om loops inner fr wt (some false) se
theorem FinNo.step {k : Nat} {m : M} (h : FinNo C T start ls loops inner fr wt k m.step) : FinNo C T start ls loops inner fr wt (k + 1) m := by
  obtain ⟨k', a, b, c, d, e, hk, he⟩ := h
  exact ⟨k' + 1, a, b, c, d, e, by omega, he⟩
theorem FinNo.now {k : Nat} : FinNo C T start ls loops inner fr wt k (mk C T start ls pc pos hd om loops inner fr wt (some false) se) := ⟨0, _, _, _, _, _, Nat.zero_le _, rfl⟩
theorem FinNo.more {k k' : Nat} {m : M} (h : FinNo C T start ls loops inner fr wt k m) (hk : k ≤ k') : FinNo C T start ls loops inner fr wt k' m := by
  obtain ⟨k1, a, b, c, d, e, h1, he⟩ := h
  exact ⟨k1, a, b, c, d, e, by omega, he⟩
theorem FinNo.of {k j : Nat} {m m' : M} (e : its j m = m') (h : FinNo C T start ls loops inner fr wt k m') : FinNo C T start ls loops inner fr wt (j + k) m := by
  obtain ⟨k1, a, b, c, d, e', h1, he⟩ := h
  exact ⟨j + k1, a, b, c, d, e', by omega, by rw [its_add, e, he]⟩
/-- the words of an optional return and a line feed -/
structure NlAt (C : Array Nat) (o : Nat) : Prop where
  h0 : C.getD o 0 = 24
  h1 : C.getD (o + 1) 0 = 6
  h2 : C.getD (o + 2) 0 = 0
  h3 : C.getD (o + 3) 0 = 1
  h4 : C.getD (o + 4) 0 = 16
  h5 : C.getD (o + 5) 0 = 13
  h7 : C.getD (o + 7) 0 = 16
  h8 : C.getD (o + 8) 0 = 10
  hz : o + 8 < C.size
/-- a line end's width -/
noncomputable def nlw (T : Array Nat) (p : Nat) : Nat := if p < T.size ∧ T.getD p 0 = 10 then 1 else if p + 1 < T.size ∧ T.getD p 0 = 13 ∧ T.getD (p + 1) 0 = 10 then 2 else 0
theorem nlw_le (T : Array Nat) (p : Nat) : nlw T p ≤ 2 ∧ (0 < nlw T p → p + nlw T p ≤ T.size) := by
  unfold nlw
  split
  · rename_i h; exact ⟨by omega, fun _ => h.1⟩
  · split
    · rename_i h; exact ⟨by omega, fun _ => h.1⟩
    · exact ⟨by omega, fun h => absurd h (Nat.lt_irrefl _)⟩
theorem nl_go {o p : Nat} (N : NlAt C o) (hp : 0 < nlw T p) (hw : wt < 10000000) :
    ∃ hd' se', its 2 (mk C T start ls o p hd om loops inner fr wt none se) = mk C T start ls (o + 9) (p + nlw T p) hd' om loops inner (fgb o (p + (nlw T p - 1)) om ((nlw T p - 1 : Nat) : Int) (kp inner.isSome) :: fr) (wt + 1) none se' := by
  have hz := N.hz
  have hsz := (nlw_le T p).2 hp
  obtain ⟨se1, hd1, e1⟩ := rep_one (start := start) (ls := ls) (hd := hd) (om := om) (loops := loops) (inner := inner) (fr := fr) (se := se) (show o < C.size by omega) N.h0 N.h1 N.h2 N.h3 N.h4 N.h5 (show p ≤ T.size by omega) hw
  by_cases h10 : p < T.size ∧ T.getD p 0 = 10
  · have hn : nlw T p = 1 := by unfold nlw; rw [if_pos h10]
    have ho : opt T 13 p = 0 := by unfold opt; rw [if_neg (fun q => by rw [h10.2] at q; exact absurd q.2 (by decide))]
    rw [ho] at e1
    obtain ⟨se2, e2⟩ := lit_yes (start := start) (ls := ls) (hd := hd1) (om := om) (loops := loops) (inner := inner) (fr := fgb o (p + 0) om ((0 : Nat) : Int) (kp inner.isSome) :: fr) (wt := wt + 1) (se := se1) (pos := p + 0) (show o + 1 + 6 < C.size by omega) N.h7 N.h8 h10.1 h10.2
    refine ⟨hd1, se2, ?_⟩
    rw [hn]
    show its 1 (M.step _) = _
    rw [e1]
    exact e2
  · have hn : nlw T p = 2 := by
      unfold nlw at hp ⊢; rw [if_neg h10] at hp ⊢
      by_cases h : p + 1 < T.size ∧ T.getD p 0 = 13 ∧ T.getD (p + 1) 0 = 10
      · rw [if_pos h]
      · rw [if_neg h] at hp; exact absurd hp (Nat.lt_irrefl _)
    have h13 : p + 1 < T.size ∧ T.getD p 0 = 13 ∧ T.getD (p + 1) 0 = 10 := by
      unfold nlw at hp; rw [if_neg h10] at hp
      by_cases h : p + 1 < T.size ∧ T.getD p 0 = 13 ∧ T.getD (p + 1) 0 = 10
      · exact h
      · rw [if_neg h] at hp; exact absurd hp (Nat.lt_irrefl _)
    have ho : opt T 13 p = 1 := by unfold opt; rw [if_pos ⟨by omega, h13.2.1⟩]
    rw [ho] at e1
    obtain ⟨se2, e2⟩ := lit_yes (start := start) (ls := ls) (hd := hd1) (om := om) (loops := loops) (inner := inner) (fr := fgb o (p + 1) om ((1 : Nat) : Int) (kp inner.isSome) :: fr) (wt := wt + 1) (se := se1) (pos := p + 1) (show o + 1 + 6 < C.size by omega) N.h7 N.h8 h13.1 h13.2.2
    refine ⟨hd1, se2, ?_⟩
    rw [hn]
    show its 1 (M.step _) = _
    rw [e1]
    exact e2
theorem nl_back {o p : Nat} {o2 b : Bool} (N : NlAt C o) (hp : 0 < nlw T p) (hw : wt < 10000000) :
    FinNo C T start ls loops inner fr wt 3 (mk C T start ls pc pos hd om loops inner (fgb o (p + (nlw T p - 1)) o2 ((nlw T p - 1 : Nat) : Int) (kp b) :: fr) (wt + 1) (some false) se) := by
  have hz := N.hz
  by_cases h10 : p < T.size ∧ T.getD p 0 = 10
  · have hn : nlw T p = 1 := by unfold nlw; rw [if_pos h10]
    rw [hn]
    refine FinNo.step (k := 2) ?_
    rw [gb_no0 N.h2]
    exact FinNo.now
  · have h13 : p + 1 < T.size ∧ T.getD p 0 = 13 ∧ T.getD (p + 1) 0 = 10 := by
      unfold nlw at hp; rw [if_neg h10] at hp
      by_cases h : p + 1 < T.size ∧ T.getD p 0 = 13 ∧ T.getD (p + 1) 0 = 10
      · exact h
      · rw [if_neg h] at hp; exact absurd hp (Nat.lt_irrefl _)
    have hn : nlw T p = 2 := by unfold nlw; rw [if_neg h10, if_pos h13]
    rw [hn]
    refine FinNo.step (k := 2) ?_
    rw [gb_no1 N.h1 N.h2 hw]
    obtain ⟨se2, e2⟩ := lit_no (start := start) (ls := ls) (hd := p) (om := o2) (loops := loops) (inner := inner) (fr := fgb o p o2 ((0 : Nat) : Int) (kp b) :: fr) (wt := wt + 1) (se := se) (pos := p) (show o + 1 + 6 < C.size by omega) N.h7 N.h8 (.inr (by rw [h13.2.1]; decide))
    refine FinNo.step (k := 1) ?_
    rw [e2]
    refine FinNo.step (k := 0) ?_
    rw [gb_no0 N.h2]
    exact FinNo.now
theorem nl_no {o p : Nat} (N : NlAt C o) (hp : nlw T p = 0) (hl : p ≤ T.size) (hw : wt < 10000000) :
    FinNo C T start ls loops inner fr wt 5 (mk C T start ls o p hd om loops inner fr wt none se) := by
  have hz := N.hz
  obtain ⟨se1, hd1, e1⟩ := rep_one (start := start) (ls := ls) (hd := hd) (om := om) (loops := loops) (inner := inner) (fr := fr) (se := se) (show o < C.size by omega) N.h0 N.h1 N.h2 N.h3 N.h4 N.h5 hl hw
  have h10 : ¬ (p < T.size ∧ T.getD p 0 = 10) := by
    intro q; unfold nlw at hp; rw [if_pos q] at hp; exact absurd hp (by decide)
  have h13 : ¬ (p + 1 < T.size ∧ T.getD p 0 = 13 ∧ T.getD (p + 1) 0 = 10) := by
    intro q; unfold nlw at hp; rw [if_neg h10, if_pos q] at hp; exact absurd hp (by decide)
  refine FinNo.step (k := 4) ?_
  by_cases hc : p < T.size ∧ T.getD p 0 = 13
  · have ho : opt T 13 p = 1 := by unfold opt; rw [if_pos hc]
    rw [ho] at e1
    rw [e1]
    obtain ⟨se2, e2⟩ := lit_no (start := start) (ls := ls) (hd := hd1) (om := om) (loops := loops) (inner := inner) (fr := fgb o (p + 1) om ((1 : Nat) : Int) (kp inner.isSome) :: fr) (wt := wt + 1) (se := se1) (pos := p + 1) (show o + 1 + 6 < C.size by omega) N.h7 N.h8
      (by by_cases h : T.size ≤ p + 1
          · exact .inl h
          · exact .inr (fun q => h13 ⟨by omega, hc.2, q⟩))
    refine FinNo.step (k := 3) ?_
    rw [e2]
    refine FinNo.step (k := 2) ?_
    rw [gb_no1 N.h1 N.h2 hw]
    obtain ⟨se3, e3⟩ := lit_no (start := start) (ls := ls) (hd := p) (om := om) (loops := loops) (inner := inner) (fr := fgb o p om ((0 : Nat) : Int) (kp inner.isSome) :: fr) (wt := wt + 1) (se := se2) (pos := p) (show o + 1 + 6 < C.size by omega) N.h7 N.h8 (.inr (by rw [hc.2]; decide))
    refine FinNo.step (k := 1) ?_
    rw [e3]
    refine FinNo.step (k := 0) ?_
    rw [gb_no0 N.h2]
    exact FinNo.now
  · have ho : opt T 13 p = 0 := by unfold opt; rw [if_neg hc]
    rw [ho] at e1
    rw [e1]
    obtain ⟨se2, e2⟩ := lit_no (start := start) (ls := ls) (hd := hd1) (om := om) (loops := loops) (inner := inner) (fr := fgb o (p + 0) om ((0 : Nat) : Int) (kp inner.isSome) :: fr) (wt := wt + 1) (se := se1) (pos := p + 0) (show o + 1 + 6 < C.size by omega) N.h7 N.h8
      (by by_cases h : T.size ≤ p
          · exact .inl h
          · exact .inr (fun q => h10 ⟨by omega, q⟩))
    refine FinNo.step (k := 3) ?_
    rw [e2]
    refine FinNo.step (k := 2) ?_
    rw [gb_no0 N.h2]
    exact FinNo.now
end
end
section
theorem fresh_Su : True := by w_top off; trivial
open PySem.Sre PySem.Sre.M
noncomputable def CU : Array Nat := #[14, 4, 0, 2, 4294967295, 23, 12, 1, 4294967295, 24, 6, 0, 1, 16, 13, 1, 16, 10, 18, 13, 6, 16, 32, 16, 9, 0, 1]
noncomputable def CN : Array Nat := #[14, 4, 0, 1, 2, 24, 6, 0, 1, 16, 13, 1, 16, 10, 1]
theorem nlU : NlAt CU 9 := by constructor <;> first | rfl | decide
theorem nlN : NlAt CN 5 := by constructor <;> first | rfl | decide
/-- the one loop -/
noncomputable def lp (c : Int) (b : Option Nat) : Array Sre.Loop := #[{ pc := 5, count := c, began := b, outer := none }]
theorem lp_mod (c : Int) (b : Option Nat) (f : Sre.Loop → Sre.Loop) : (lp c b).modify 0 f = #[f { pc := 5, count := c, began := b, outer := none }] := rfl
noncomputable def fmm (q : Nat) (om : Bool) (c : Int) (b : Option Nat) : Sre.Frame := { wait := .maxMore, pc := 19, pos := q, outermost := om, count := c, kept := kp true, loop := 0, began := b }
noncomputable def fmt (q : Nat) (om : Bool) (c : Int) : Sre.Frame := { wait := .maxTail, pc := 19, pos := q, outermost := om, count := c, kept := kp false, loop := 0 }
noncomputable def fmb (q : Nat) (om : Bool) : Sre.Frame := { wait := .maxBelow, pc := 19, pos := q, outermost := om, count := 0, loop := 0 }
noncomputable def fcl (q : Nat) (om : Bool) : Sre.Frame := { wait := .closeLoop, pc := 5, pos := q, outermost := om, loop := 0 }
noncomputable def fns (s : Nat) (om : Bool) : Sre.Frame := { wait := .nextStart, pc := 5, pos := s, outermost := om }
noncomputable def blank (T : Array Nat) (p : Nat) : Prop := p < T.size ∧ (T.getD p 0 = 32 ∨ T.getD p 0 = 9)
section
variable {T : Array Nat} {start ls pc pos hd : Nat} {om : Bool} {loops : Array Sre.Loop} {inner : Option Nat} {fr : List Sre.Frame} {wt : Nat} {se : Sre.Seen}
theorem keep_kp {m : M} {b : Bool} (h1 : m.lastmark = -1) (h2 : m.lastindex = -1) (h3 : m.marks = #[]) : m.keep b = kp b := by
  cases m
  subst h1 h2 h3
  cases b <;> rfl
theorem set_blank (d : Nat) (se : Sre.Seen) : ∃ se', inSet CU d CU.size 21 true se = .ok (decide (d = 32 ∨ d = 9), se') := by
  have e1 : inSet CU d CU.size 21 true se = if d == 32 then .ok (true, se.add 16) else if d == 9 then .ok (true, (se.add 16).add 16) else .ok (false, ((se.add 16).add 16).add 0) := by kernel_rfl
  rw [e1]
  by_cases h : d = 32
  · rw [if_pos (beq_iff_eq.mpr h)]
    exact ⟨_, by rw [decide_eq_true (.inl h)]⟩
  · rw [if_neg (by rwa [beq_iff_eq])]
    by_cases h' : d = 9
    · rw [if_pos (beq_iff_eq.mpr h')]
      exact ⟨_, by rw [decide_eq_true (.inr h')]⟩
    · rw [if_neg (by rwa [beq_iff_eq])]
      exact ⟨_, by rw [decide_eq_false (fun q => q.elim h h')]⟩
theorem tail_no (hb : ¬ blank T pos) : ∃ se', (mk CU T start ls 19 pos hd om loops inner fr wt none se).step = mk CU T start ls 19 pos hd om loops inner fr wt (some false) se' := by
  refine in_no (o := 6) (by decide) rfl rfl ?_
  by_cases hp : T.size ≤ pos
  · exact .inl hp
  · refine .inr fun se => ?_
    obtain ⟨se', e⟩ := set_blank (T.getD pos 0) se
    exact ⟨se', by rw [e, decide_eq_false (fun q => hb ⟨by omega, q⟩)]⟩
theorem tail_yes (hb : blank T pos) : ∃ se', its 2 (mk CU T start ls 19 pos hd om loops inner fr wt none se) = mk CU T start ls 26 (pos + 1) (pos + 1) om loops inner fr wt (some true) se' := by
  obtain ⟨se1, e1⟩ := in_yes (C := CU) (start := start) (ls := ls) (hd := hd) (om := om) (loops := loops) (inner := inner) (fr := fr) (wt := wt) (se := se) (pc := 19) (o := 6) (by decide) rfl rfl hb.1 (fun se => by
    obtain ⟨se', e⟩ := set_blank (T.getD pos 0) se
    exact ⟨se', by rw [e, decide_eq_true hb.2]⟩)
  obtain ⟨se2, e2⟩ := succ_yes (C := CU) (T := T) (start := start) (ls := ls) (hd := hd) (om := om) (loops := loops) (inner := inner) (fr := fr) (wt := wt) (se := se1) (pc := 26) (pos := pos + 1) (by decide) rfl
  exact ⟨se2, by show its 1 (M.step _) = _; rw [e1]; exact e2⟩
theorem until_more {c : Nat} {b : Option Nat} (hb : b ≠ some pos) (hw : wt < 10000000) :
    ∃ se' hd', (mk CU T start ls 18 pos hd om (lp c b) (some 0) fr wt none se).step = mk CU T start ls 9 pos hd' om (lp ((c + 1 : Nat) : Int) (some pos)) (some 0) (fmm pos om ((c + 1 : Nat) : Int) b :: fr) (wt + 1) none se' := by
  rw [step_exec (by decide)]
  unfold M.exec
  have o18 : Sre.ops[18]? = some .MAX_UNTIL := rfl
  have w : CU.getD 18 0 = 18 := rfl
  simp only [mk, M.word, Nat.add_zero, w, o18]
  unfold M.until_
  have w7 : CU.getD (5 + 2) 0 = 1 := rfl
  have w8 : CU.getD (5 + 3) 0 = maxRepeat := rfl
  have hl : (lp c b).getD 0 { pc := 0, outer := none } = { pc := 5, count := c, began := b, outer := none } := rfl
  simp only [M.loopAt, hl, w7, w8]
  rw [if_neg (by omega)]
  simp only [Bool.not_true, Bool.false_eq_true, if_false, beq_self_eq_true, Bool.or_true, Bool.true_and]
  rw [if_pos (by rw [bne_iff_ne]; exact hb)]
  unfold M.round
  simp only [M.loopAt, hl, M.setLoop, lp_mod, if_true, M.attempt, M.frame]
  rw [keep_kp rfl rfl rfl]
  rw [if_neg (by simp [kp]; omega)]
  exact ⟨_, _, rfl⟩
theorem more_no {q : Nat} {o2 : Bool} {c : Nat} {b b' : Option Nat} {c' : Int} (hw : wt < 10000000) :
    ∃ hd' se', (mk CU T start ls pc pos hd om (lp c' b') (some 0) (fmm q o2 ((c + 1 : Nat) : Int) b :: fr) (wt + 1) (some false) se).step = mk CU T start ls 19 q hd' o2 (lp c b) none (fmt q o2 ((c + 1 : Nat) : Int) :: fr) (wt + 1) none se' := by
  rw [step_resume]
  unfold M.resume
  simp only [fmm]
  simp only [mk, M.setLoop, lp_mod, Bool.false_eq_true, if_false]
  rw [put_back rfl rfl rfl]
  unfold M.afterLoop
  simp only [M.attempt, M.frame]
  rw [keep_kp rfl rfl rfl]
  rw [if_neg (by simp [kp]; omega)]
  have : ((c + 1 : Nat) : Int) - 1 = (c : Int) := by omega
  simp only [this]
  exact ⟨_, _, rfl⟩
theorem more_yes {q : Nat} {o2 : Bool} {c : Int} {b b' : Option Nat} {c' : Int} :
    (mk CU T start ls pc pos hd om (lp c' b') (some 0) (fmm q o2 c b :: fr) (wt + 1) (some true) se).step = mk CU T start ls 19 q hd o2 (lp c' b) (some 0) fr wt (some true) se := by
  rw [step_resume]
  rfl
theorem mtail {q : Nat} {o2 a : Bool} {c : Int} :
    (mk CU T start ls pc pos hd om loops none (fmt q o2 c :: fr) (wt + 1) (some a) se).step = mk CU T start ls 19 q hd o2 loops (some 0) fr wt (some a) se := by
  rw [step_resume]
  rfl
theorem until_first {hw : wt < 10000000} :
    ∃ se' hd', (mk CU T start ls 18 pos hd om (lp (-1) none) (some 0) fr wt none se).step = mk CU T start ls 9 pos hd' om (lp ((0 : Nat) : Int) none) (some 0) (fmb pos om :: fr) (wt + 1) none se' := by
  rw [step_exec (by decide)]
  unfold M.exec
  have o18 : Sre.ops[18]? = some .MAX_UNTIL := rfl
  have w : CU.getD 18 0 = 18 := rfl
  simp only [mk, M.word, Nat.add_zero, w, o18]
  unfold M.until_
  have w7 : CU.getD (5 + 2) 0 = 1 := rfl
  have hl : (lp (-1) none).getD 0 { pc := 0, outer := none } = { pc := 5, count := -1, began := none, outer := none } := rfl
  simp only [M.loopAt, hl, w7]
  rw [if_pos (by decide)]
  unfold M.round
  simp only [M.loopAt, hl, M.setLoop, lp_mod, if_true, M.attempt, M.frame]
  rw [if_neg (by simp; omega)]
  exact ⟨_, _, rfl⟩
theorem below_yes {q : Nat} {o2 : Bool} :
    (mk CU T start ls pc pos hd om loops inner (fmb q o2 :: fr) (wt + 1) (some true) se).step = mk CU T start ls 19 q hd o2 loops inner fr wt (some true) se := by
  rw [step_resume]
  rfl
theorem below_no {q : Nat} {o2 : Bool} {c : Int} {b : Option Nat} :
    (mk CU T start ls pc pos hd om (lp c b) inner (fmb q o2 :: fr) (wt + 1) (some false) se).step = mk CU T start ls 19 q hd o2 (lp (-1) b) inner fr wt (some false) se := by
  rw [step_resume]
  rfl
theorem close {q : Nat} {o2 a : Bool} {c : Int} {b : Option Nat} :
    (mk CU T start ls pc pos hd om (lp c b) inner (fcl q o2 :: fr) (wt + 1) (some a) se).step = mk CU T start ls 5 q hd o2 #[] none fr wt (some a) se := by
  rw [step_resume]
  rfl
theorem repeat_in (hw : wt < 10000000) :
    ∃ se' hd', (mk CU T start ls 5 pos hd om #[] none fr wt none se).step = mk CU T start ls 18 pos hd' om (lp (-1) none) (some 0) (fcl pos om :: fr) (wt + 1) none se' := by
  rw [step_exec (by decide)]
  unfold M.exec
  have o23 : Sre.ops[23]? = some .REPEAT := rfl
  have w : CU.getD 5 0 = 23 := rfl
  have w1 : CU.getD (5 + 1) 0 = 12 := rfl
  simp only [mk, M.word, Nat.add_zero, w, w1, o23, M.attempt, M.frame]
  rw [if_neg (by simp; omega)]
  exact ⟨_, _, rfl⟩
/-- the machine says yes at e, within k steps -/
noncomputable def FinYes (T : Array Nat) (start ls : Nat) (fr : List Sre.Frame) (wt e k : Nat) (m : M) : Prop :=
  ∃ k' pc pos om c b se, k' ≤ k ∧ its k' m = mk CU T start ls pc pos e om (lp c b) (some 0) fr wt (some true) se
theorem FinYes.of {e k j : Nat} {m m' : M} (h' : its j m = m') (h : FinYes T start ls fr wt e k m') : FinYes T start ls fr wt e (j + k) m := by
  obtain ⟨k1, a, b, c, d, f, g, h1, he⟩ := h
  exact ⟨j + k1, a, b, c, d, f, g, by omega, by rw [its_add, h', he]⟩
theorem FinYes.more {e k k' : Nat} {m : M} (h : FinYes T start ls fr wt e k m) (hk : k ≤ k') : FinYes T start ls fr wt e k' m := by
  obtain ⟨k1, a, b, c, d, f, g, h1, he⟩ := h
  exact ⟨k1, a, b, c, d, f, g, by omega, he⟩
/-- where a run of line ends and a blank end -/
noncomputable def uR (T : Array Nat) : Nat → Nat → Option Nat
  | 0, _ => none
  | f + 1, p => if nlw T p = 0 then none else match uR T f (p + nlw T p) with
    | some e => some e
    | none => if p + nlw T p < T.size ∧ (T.getD (p + nlw T p) 0 = 32 ∨ T.getD (p + nlw T p) 0 = 9) then some (p + nlw T p + 1) else none
theorem u_try : ∀ (f p : Nat) (c : Nat) (b : Option Nat) (hd : Nat) (om : Bool) (fr : List Sre.Frame) (wt : Nat) (se : Sre.Seen), p ≤ T.size → T.size < p + f → (∀ q, p < q → b ≠ some q) → wt + 2 * f < 9000000 →
    (uR T f p = none ∧ FinNo CU T start ls (lp c b) (some 0) fr wt (20 * f) (mk CU T start ls 9 p hd om (lp c b) (some 0) fr wt none se)) ∨
    ∃ e, uR T f p = some e ∧ FinYes T start ls fr wt e (20 * f) (mk CU T start ls 9 p hd om (lp c b) (some 0) fr wt none se)
  | 0, p, c, b, hd, om, fr, wt, se, h1, h2, h3, h4 => absurd h2 (by omega)
  | f + 1, p, c, b, hd, om, fr, wt, se, h1, h2, h3, h4 => by
    by_cases hn : nlw T p = 0
    · refine .inl ⟨by rw [uR, if_pos hn], (nl_no nlU hn h1 (by omega)).more (by omega)⟩
    · have hn' : 0 < nlw T p := Nat.pos_of_ne_zero hn
      have hle := (nlw_le T p).2 hn'
      obtain ⟨hd1, se1, e1⟩ := nl_go (C := CU) (T := T) (start := start) (ls := ls) (hd := hd) (om := om) (loops := lp c b) (inner := some 0) (fr := fr) (wt := wt) (se := se) nlU hn' (by omega)
      obtain ⟨se2, hd2, e2⟩ := until_more (T := T) (start := start) (ls := ls) (hd := hd1) (om := om) (fr := fgb 9 (p + (nlw T p - 1)) om ((nlw T p - 1 : Nat) : Int) (kp (some 0).isSome) :: fr) (wt := wt + 1) (se := se1) (pos := p + nlw T p) (c := c) (b := b) (h3 _ (by omega)) (by omega)
      have e3 := (its_add 2 1 (mk CU T start ls 9 p hd om (lp c b) (some 0) fr wt none se)).trans ((congrArg (its 1) e1).trans e2)
      rcases u_try f (p + nlw T p) (c + 1) (some (p + nlw T p)) hd2 om (fmm (p + nlw T p) om ((c + 1 : Nat) : Int) b :: fgb 9 (p + (nlw T p - 1)) om ((nlw T p - 1 : Nat) : Int) (kp (some 0).isSome) :: fr) (wt + 1 + 1) se2 hle (by omega) (fun q hq e => by cases e; omega) (by omega) with ⟨h5, h6⟩ | ⟨e, h5, h6⟩
      · obtain ⟨k', pc', pos', hd', om', se', hk', he'⟩ := h6
        obtain ⟨hd4, se4, e4⟩ := more_no (T := T) (start := start) (ls := ls) (pc := pc') (pos := pos') (hd := hd') (om := om') (fr := fgb 9 (p + (nlw T p - 1)) om ((nlw T p - 1 : Nat) : Int) (kp (some 0).isSome) :: fr) (wt := wt + 1) (se := se') (q := p + nlw T p) (o2 := om) (c := c) (b := b) (b' := some (p + nlw T p)) (c' := ((c + 1 : Nat) : Int)) (by omega)
        have e5 := (its_add 3 (k' + 1) (mk CU T start ls 9 p hd om (lp c b) (some 0) fr wt none se)).trans ((congrArg (its (k' + 1)) e3).trans ((its_add k' 1 _).trans ((congrArg (its 1) he').trans e4)))
        by_cases hb : blank T (p + nlw T p)
        · obtain ⟨se6, e6⟩ := tail_yes (T := T) (start := start) (ls := ls) (hd := hd4) (om := om) (loops := lp c b) (inner := none) (fr := fmt (p + nlw T p) om ((c + 1 : Nat) : Int) :: fgb 9 (p + (nlw T p - 1)) om ((nlw T p - 1 : Nat) : Int) (kp (some 0).isSome) :: fr) (wt := wt + 1 + 1) (se := se4) (pos := p + nlw T p) hb
          refine .inr ⟨p + nlw T p + 1, ?_, ?_⟩
          · rw [uR, if_neg hn, h5]
            exact if_pos hb
          · have e7 := (its_add 2 2 _).trans ((congrArg (its 2) e6).trans ((congrArg M.step mtail).trans gb_yes))
            exact FinYes.more (FinYes.of e5 (k := 4) ⟨4, _, _, _, _, _, _, Nat.le_refl _, e7⟩) (by omega)
        · obtain ⟨se6, e6⟩ := tail_no (T := T) (start := start) (ls := ls) (hd := hd4) (om := om) (loops := lp c b) (inner := none) (fr := fmt (p + nlw T p) om ((c + 1 : Nat) : Int) :: fgb 9 (p + (nlw T p - 1)) om ((nlw T p - 1 : Nat) : Int) (kp (some 0).isSome) :: fr) (wt := wt + 1 + 1) (se := se4) (pos := p + nlw T p) hb
          refine .inl ⟨?_, ?_⟩
          · rw [uR, if_neg hn, h5]
            exact if_neg hb
          · refine FinNo.more (FinNo.of e5 (k := 5) ?_) (by omega)
            refine FinNo.step (k := 4) ?_
            rw [e6]
            refine FinNo.step (k := 3) ?_
            rw [mtail]
            exact nl_back nlU hn' (by omega)
      · refine .inr ⟨e, by rw [uR, if_neg hn, h5], ?_⟩
        obtain ⟨k', pc', pos', om', c', b', se', hk', he'⟩ := h6
        have e7 := (its_add 3 (k' + 2) _).trans ((congrArg (its (k' + 2)) e3).trans ((its_add k' 2 _).trans ((congrArg (its 2) he').trans ((congrArg M.step more_yes).trans gb_yes))))
        exact ⟨3 + (k' + 2), _, _, _, _, _, _, by omega, e7⟩
end
end
section
theorem fresh_Sv : True := by w_top off; trivial
open PySem.Sre PySem.Sre.M
/-- a try's outcome at s -/
noncomputable def Tries (C T : Array Nat) (ls : Nat) (R : Nat → Option Nat) (K : Nat) : Prop :=
  ∀ s hd om se, s ≤ T.size → (R s = none ∧ FinNo C T s ls #[] none [fns s om] 1 K (mk C T s ls 5 s hd om #[] none [fns s om] 1 none se)) ∨
    ∃ e, R s = some e ∧ ∃ k pc pos om' lo inn se', k ≤ K ∧ its k (mk C T s ls 5 s hd om #[] none [fns s om] 1 none se) = mk C T s ls pc pos e om' lo inn [fns s om] 1 (some true) se'
theorem tries_U {T : Array Nat} {ls : Nat} (hT : T.size ≤ 1000000) : Tries CU T ls (uR T (T.size + 1)) (20 * (T.size + 1) + 10) := by
  intro s hd om se hs
  obtain ⟨se1, hd1, e1⟩ := repeat_in (T := T) (start := s) (ls := ls) (hd := hd) (om := om) (fr := [fns s om]) (wt := 1) (se := se) (pos := s) (by omega)
  obtain ⟨se2, hd2, e2⟩ := until_first (T := T) (start := s) (ls := ls) (hd := hd1) (om := om) (fr := fcl s om :: [fns s om]) (wt := 2) (se := se1) (pos := s) (hw := by omega)
  have e3 : its 2 (mk CU T s ls 5 s hd om #[] none [fns s om] 1 none se) = _ := (congrArg M.step e1).trans e2
  rcases u_try (T := T) (start := s) (ls := ls) (T.size + 1) s 0 none hd2 om (fmb s om :: fcl s om :: [fns s om]) 3 se2 hs (by omega) (fun q _ h => nomatch h) (by omega) with ⟨h5, h6⟩ | ⟨e, h5, h6⟩
  · refine .inl ⟨h5, ?_⟩
    obtain ⟨k', pc', pos', hd', om', se', hk', he'⟩ := h6
    have e7 := (its_add 2 (k' + 2) _).trans ((congrArg (its (k' + 2)) e3).trans ((its_add k' 2 _).trans ((congrArg (its 2) he').trans ((congrArg M.step below_no).trans close))))
    exact ⟨2 + (k' + 2), _, _, _, _, _, by omega, e7⟩
  · refine .inr ⟨e, h5, ?_⟩
    obtain ⟨k', pc', pos', om', c', b', se', hk', he'⟩ := h6
    have e7 := (its_add 2 (k' + 2) _).trans ((congrArg (its (k' + 2)) e3).trans ((its_add k' 2 _).trans ((congrArg (its 2) he').trans ((congrArg M.step below_yes).trans close))))
    exact ⟨2 + (k' + 2), _, _, _, _, _, _, by omega, e7⟩
/-- where a line end ends -/
noncomputable def nR (T : Array Nat) (p : Nat) : Option Nat := if nlw T p = 0 then none else some (p + nlw T p)
theorem tries_N {T : Array Nat} {ls : Nat} (_hT : T.size ≤ 1000000) : Tries CN T ls (nR T) 10 := by
  intro s hd om se hs
  by_cases hn : nlw T s = 0
  · exact .inl ⟨by rw [nR, if_pos hn], (nl_no nlN hn hs (by omega)).more (by omega)⟩
  · have hn' : 0 < nlw T s := Nat.pos_of_ne_zero hn
    refine .inr ⟨_, by rw [nR, if_neg hn], ?_⟩
    obtain ⟨hd1, se1, e1⟩ := nl_go (C := CN) (T := T) (start := s) (ls := ls) (hd := hd) (om := om) (loops := #[]) (inner := none) (fr := [fns s om]) (wt := 1) (se := se) nlN hn' (by omega)
    obtain ⟨se2, e2⟩ := succ_yes (C := CN) (T := T) (start := s) (ls := ls) (hd := hd1) (om := om) (loops := #[]) (inner := none) (fr := fgb 5 (s + (nlw T s - 1)) om ((nlw T s - 1 : Nat) : Int) (kp (none : Option Nat).isSome) :: [fns s om]) (wt := 2) (se := se1) (pc := 14) (pos := s + nlw T s) (by decide) rfl
    have e7 := (its_add 2 2 _).trans ((congrArg (its 2) e1).trans ((congrArg M.step e2).trans gb_yes))
    exact ⟨4, _, _, _, _, _, _, by omega, e7⟩
/-- the first place of a find -/
noncomputable def firstR (R : Nat → Option Nat) (ls : Nat) : Nat → Nat → Option (Nat × Nat)
  | 0, _ => none
  | f + 1, s => match R s with
    | some e => some (s, e)
    | none => if s < ls then firstR R ls f (s + 1) else none
section
variable {C T : Array Nat} {start ls pc pos hd : Nat} {om : Bool} {loops : Array Sre.Loop} {inner : Option Nat} {fr : List Sre.Frame} {wt : Nat} {se : Sre.Seen}
theorem ns_no (hC : C.getD 2 0 = 0) {s : Nat} {o2 : Bool} (h : s < ls) : ∃ hd', (mk C T start ls pc pos hd om #[] none (fns s o2 :: []) 1 (some false) se).step = mk C T (s + 1) ls 5 (s + 1) hd' false #[] none [fns (s + 1) false] 1 none se := by
  rw [step_resume]
  unfold M.resume
  simp only [fns, Bool.false_eq_true, if_false]
  show ∃ hd', (if s < ls then _ else _) = _
  rw [if_pos h]
  simp only [mk]
  unfold M.attemptFrom
  have hf : M.hasFirstSet ({ code := C, text := T, lim := T.size, start := start, lastStart := ls, wholeText := false, mustAdvance := false, pc := 5, pos := s, handed := hd, outermost := o2, marks := #[], lastmark := -1, lastindex := -1, loops := #[], inner := none, frames := [], weight := 1 - (1 + (({} : Sre.Kept).marks).size), answer := none, seen := se, outcome := none } : M) = false := by
    unfold M.hasFirstSet
    show (_ && (C.getD 2 0 == 4)) = false
    rw [hC]
    exact Bool.and_false _
  rw [hf, if_pos (show (!false) = true from rfl)]
  unfold M.attemptAt M.attempt
  rw [if_neg (by simp)]
  exact ⟨_, rfl⟩
theorem ns_stop {s : Nat} {o2 : Bool} (h : ¬ s < ls) : ∃ m : M, its 2 (mk C T start ls pc pos hd om #[] none (fns s o2 :: []) 1 (some false) se) = m ∧ ∃ oc, m.outcome = some oc ∧ oc = .failed := by
  refine ⟨_, rfl, ?_⟩
  show ∃ oc, (M.step (M.step _)).outcome = some oc ∧ _
  rw [step_resume]
  unfold M.resume
  simp only [fns, Bool.false_eq_true, if_false]
  show ∃ oc, (M.step (if s < ls then _ else _)).outcome = some oc ∧ _
  rw [if_neg h]
  exact ⟨_, rfl, rfl⟩
theorem ns_yes {s e : Nat} {o2 : Bool} : ∃ m : M, its 2 (mk C T start ls pc pos e om loops inner (fns s o2 :: []) 1 (some true) se) = m ∧ m.outcome = some .matched ∧ m.start = start ∧ m.handed = e := by
  refine ⟨_, rfl, ?_⟩
  show (M.step (M.step _)).outcome = some .matched ∧ _
  rw [step_resume]
  exact ⟨rfl, rfl, rfl⟩
end
/-- what a machine comes to: its find -/
noncomputable def Ends (K : Nat) (m : M) (r : Option (Nat × Nat)) : Prop := ∃ k, k ≤ K ∧ match r with
  | none => (its k m).outcome = some .failed
  | some (s, e) => (its k m).outcome = some .matched ∧ (its k m).start = s ∧ (its k m).handed = e
theorem Ends.of {K j : Nat} {m m' : M} {r : Option (Nat × Nat)} (h : its j m = m') (e : Ends K m' r) : Ends (j + K) m r := by
  obtain ⟨k, hk, he⟩ := e
  refine ⟨j + k, by omega, ?_⟩
  rw [its_add, h]
  exact he
theorem Ends.more {K K' : Nat} {m : M} {r : Option (Nat × Nat)} (e : Ends K m r) (h : K ≤ K') : Ends K' m r := by
  obtain ⟨k, hk, he⟩ := e
  exact ⟨k, by omega, he⟩
theorem search_run {C T : Array Nat} {ls : Nat} {R : Nat → Option Nat} {K : Nat} (hC : C.getD 2 0 = 0) (hR : Tries C T ls R K) (hls : ls ≤ T.size) : ∀ f s hd om se, s ≤ ls → ls < s + f →
    Ends ((K + 2) * f) (mk C T s ls 5 s hd om #[] none [fns s om] 1 none se) (firstR R ls f s)
  | 0, s, hd, om, se, h1, h2 => absurd h2 (by omega)
  | f + 1, s, hd, om, se, h1, h2 => by
    rcases hR s hd om se (by omega) with ⟨h3, h4⟩ | ⟨e, h3, h4⟩
    · obtain ⟨k, pc, pos, hd', om', se', hk, he⟩ := h4
      by_cases hs : s < ls
      · obtain ⟨hd2, e2⟩ := ns_no (T := T) (start := s) (pc := pc) (pos := pos) (hd := hd') (om := om') (se := se') (o2 := om) hC hs
        have e3 := (its_add k 1 _).trans ((congrArg (its 1) he).trans e2)
        have := Ends.of e3 (search_run hC hR hls f (s + 1) hd2 false se' hs (by omega))
        rw [firstR, h3]
        simp only [if_pos hs]
        refine this.more ?_
        rw [Nat.mul_succ]; omega
      · obtain ⟨m, e2, oc, e3, rfl⟩ := ns_stop (C := C) (T := T) (start := s) (pc := pc) (pos := pos) (hd := hd') (om := om') (se := se') (o2 := om) hs
        rw [firstR, h3]
        simp only [if_neg hs]
        refine ⟨k + 2, by rw [Nat.mul_succ]; omega, ?_⟩
        rw [its_add, he, e2]
        exact e3
    · obtain ⟨k, pc, pos, om', lo, inn, se', hk, he⟩ := h4
      obtain ⟨m, e2, e3, e4, e5⟩ := ns_yes (C := C) (T := T) (start := s) (ls := ls) (pc := pc) (pos := pos) (om := om') (loops := lo) (inner := inn) (se := se') (s := s) (e := e) (o2 := om)
      rw [firstR, h3]
      refine ⟨k + 2, by rw [Nat.mul_succ]; omega, ?_⟩
      rw [its_add, he, e2]
      exact ⟨e3, e4, e5⟩
end
section
theorem fresh_Sw : True := by w_top off; trivial
open PySem.Builtin PySem.Builtin.Re
/-- the first find from a place on -/
noncomputable def FirstAt (R : Nat → Option Nat) (pos : Nat) : Option (Nat × Nat) → Prop
  | none => ∀ s, pos ≤ s → R s = none
  | some (s, e) => pos ≤ s ∧ R s = some e ∧ ∀ s', pos ≤ s' → s' < s → R s' = none
theorem first_spec {R : Nat → Option Nat} {ls : Nat} (hR : ∀ s, ls < s → R s = none) : ∀ f s, s ≤ ls → ls < s + f → FirstAt R s (firstR R ls f s)
  | 0, s, h1, h2 => absurd h2 (by omega)
  | f + 1, s, h1, h2 => by
    rw [firstR]
    cases h : R s with
    | some e => exact ⟨Nat.le_refl _, h, fun s' a b => absurd a (by omega)⟩
    | none =>
      dsimp only
      by_cases hs : s < ls
      · rw [if_pos hs]
        have ih := first_spec hR f (s + 1) hs (by omega)
        generalize firstR R ls f (s + 1) = r at ih ⊢
        match r, ih with
        | none, ih =>
          intro s' h'
          by_cases e : s' = s
          · rw [e, h]
          · exact ih s' (by omega)
        | some (a, b), ih =>
          obtain ⟨i1, i2, i3⟩ := ih
          refine ⟨by omega, i2, fun s' h' h'' => ?_⟩
          by_cases e : s' = s
          · rw [e, h]
          · exact i3 s' (by omega) h''
      · rw [if_neg hs]
        intro s' h'
        by_cases e : s' = s
        · rw [e, h]
        · exact hR s' (by omega)
theorem nlw_out {T : Array Nat} {s : Nat} (h : T.size ≤ s) : nlw T s = 0 := by
  unfold nlw
  rw [if_neg (by omega), if_neg (by omega)]
theorem uR_out {T : Array Nat} {s : Nat} (h : T.size ≤ s + 1) : ∀ f, uR T f s = none
  | 0 => rfl
  | f + 1 => by
    by_cases hn : nlw T s = 0
    · rw [uR, if_pos hn]
    · have h1 := (nlw_le T s).2 (Nat.pos_of_ne_zero hn)
      have h2 : s + nlw T s = T.size := by omega
      have h3 : uR T f (T.size) = none := by
        cases f with
        | zero => rfl
        | succ f => rw [uR, if_pos (nlw_out (Nat.le_refl _))]
      rw [uR, if_neg hn, h2, h3]
      exact if_neg (fun q => absurd q.1 (Nat.lt_irrefl _))
open PySem.Sre PySem.Sre.M in
theorem search_U {T : Array Nat} {pos : Nat} (hT : T.size ≤ 1000000) (hp : pos ≤ T.size) : ∃ r, FirstAt (uR T (T.size + 1)) pos r ∧ Ends ((20 * (T.size + 1) + 12) * (T.size + 3) + 1) (forSearch CU T 0 pos T.size false) r := by
  by_cases h : T.size - pos < 2
  · refine ⟨none, fun s hs => uR_out (by omega) _, 1, by omega, ?_⟩
    have e : forSearch CU T 0 pos T.size false = M.say { code := CU, text := T, lim := T.size, start := pos, pc := 5, pos := pos, handed := pos, marks := Array.replicate (2 * 0) none, mustAdvance := false, seen := ({} : Sre.Seen).add 14 } false := by
      show (if (decide (pos > T.size) || decide (T.size - pos < 2)) = true then _ else _) = _
      rw [if_pos (by simp; omega)]
      rfl
    rw [e]
    rfl
  · refine ⟨_, first_spec (R := uR T (T.size + 1)) (ls := max pos (T.size - 1)) (fun s hs => uR_out (by omega) _) (T.size + 3) pos (by omega) (by omega), ?_⟩
    have e : forSearch CU T 0 pos T.size false = mk CU T pos (max pos (T.size - 1)) 5 pos pos true #[] none [fns pos true] 1 none (({} : Sre.Seen).add 14) := by
      show (if (decide (pos > T.size) || decide (T.size - pos < 2)) = true then _ else _) = _
      rw [if_neg (by simp; omega)]
      rfl
    rw [e]
    exact (search_run rfl (tries_U hT) (by omega) (T.size + 3) pos pos true _ (by omega) (by omega)).more (Nat.le_succ _)
open PySem.Sre PySem.Sre.M in
theorem search_N {T : Array Nat} {pos : Nat} (hT : T.size ≤ 1000000) (hp : pos ≤ T.size) : ∃ r, FirstAt (nR T) pos r ∧ Ends (12 * (T.size + 3) + 1) (forSearch CN T 0 pos T.size false) r := by
  have hout : ∀ s, T.size ≤ s → nR T s = none := fun s hs => by rw [nR, if_pos (nlw_out hs)]
  by_cases h : T.size - pos < 1
  · refine ⟨none, fun s hs => hout s (by omega), 1, by omega, ?_⟩
    have e : forSearch CN T 0 pos T.size false = M.say { code := CN, text := T, lim := T.size, start := pos, pc := 5, pos := pos, handed := pos, marks := Array.replicate (2 * 0) none, mustAdvance := false, seen := ({} : Sre.Seen).add 14 } false := by
      show (if (decide (pos > T.size) || decide (T.size - pos < 1)) = true then _ else _) = _
      rw [if_pos (by simp; omega)]
      rfl
    rw [e]
    rfl
  · refine ⟨_, first_spec (R := nR T) (ls := T.size) (fun s hs => hout s (by omega)) (T.size + 3) pos (by omega) (by omega), ?_⟩
    have e : forSearch CN T 0 pos T.size false = mk CN T pos T.size 5 pos pos true #[] none [fns pos true] 1 none (({} : Sre.Seen).add 14) := by
      show (if (decide (pos > T.size) || decide (T.size - pos < 1)) = true then _ else _) = _
      rw [if_neg (by simp; omega)]
      rfl
    rw [e]
    exact (search_run rfl (tries_N hT) (by omega) (T.size + 3) pos pos true _ (by omega) (by omega)).more (by omega)
section
variable {M : Model} {A : Around} {E : Value → Shared → Prop} {s : Shared}
theorem its_same {a b : Nat} {m : Sre.M} (ha : (its a m).outcome.isSome = true) (hb : (its b m).outcome.isSome = true) : its a m = its b m := by
  rcases Nat.le_total a b with h | h
  · obtain ⟨k, rfl⟩ := Nat.exists_eq_add_of_le h
    rw [its_add, its_done ha]
  · obtain ⟨k, rfl⟩ := Nat.exists_eq_add_of_le h
    rw [its_add, its_done hb]
theorem drive {Q : Sre.M → Shared → Prop} : ∀ (n k : Nat) (m : Sre.M), k ≤ 4 * n → (its k m).outcome.isSome = true → Q (its k m) s → 0 < n → wpAny M A (reDrive n m) Q E s
  | 0, k, m, h1, h2, h3, h4 => absurd h4 (Nat.lt_irrefl _)
  | n + 1, k, m, h1, h2, h3, _ => by
    rw [reDrive]
    show wpAny M A (if (m.runFor 4).outcome.isSome = true then _ else _) Q E s
    rw [runFor_its]
    by_cases hd : (its 4 m).outcome.isSome = true
    · rw [if_pos hd]
      refine wpAny_pure ?_
      show Q (m.runFor 4) s
      rw [runFor_its, its_same hd h2]
      exact h3
    · rw [if_neg hd]
      have hk : 4 < k := by
        rcases Nat.lt_or_ge 4 k with h | h
        · exact h
        · obtain ⟨j, hj⟩ := Nat.exists_eq_add_of_le h
          rw [hj, its_add, its_done h2] at hd
          exact absurd h2 hd
      obtain ⟨j, rfl⟩ : ∃ j, k = 4 + j := ⟨k - 4, by omega⟩
      rw [its_add] at h2 h3
      refine wpAny_bind (wpAny_rule ?_)
      show wpAny M A (reDrive n (m.runFor 4)) Q E s
      rw [runFor_its]
      refine drive n j _ (by omega) h2 h3 ?_
      rcases Nat.eq_zero_or_pos n with rfl | h
      · omega
      · exact h
theorem loop_rules {Q : PUnit → Shared → Prop} {f : Nat → PUnit → Sem (ForInStep PUnit)} (hf : ∀ i u, f i u = pure (.yield ⟨⟩) ∨ ∃ r, f i u = (do rule r; pure (.yield ⟨⟩))) (h : Q ⟨⟩ s) : ∀ l : List Nat, wpAny M A (forIn l PUnit.unit f) Q E s
  | [] => wpAny_pure h
  | i :: l => by
    rw [List.forIn_cons]
    rcases hf i ⟨⟩ with e | ⟨r, e⟩
    · rw [e]
      exact wpAny_bind (wpAny_pure (loop_rules hf h l))
    · rw [e]
      exact wpAny_bind (wpAny_bind (wpAny_rule (wpAny_pure (loop_rules hf h l))))
theorem run_to_end {m : Sre.M} {K : Nat} {r : Option (Nat × Nat)} {Q : Option Sre.M → Shared → Prop} (hE : Ends K m r) (hK : K ≤ 2 ^ 60)
    (h : match r with | none => Q none s | some (a, b) => ∀ m' : Sre.M, m'.start = a → m'.handed = b → Q (some m') s) : wpAny M A (reRunToEnd m) Q E s := by
  obtain ⟨k, hk, he⟩ := hE
  have hs : (its k m).outcome.isSome = true := by
    match r, he with
    | none, he => rw [he]; rfl
    | some (a, b), he => rw [he.1]; rfl
  unfold reRunToEnd
  refine wpAny_bind (drive (2 ^ 64) k m (by omega) hs ?_ (Nat.pos_of_ne_zero (by decide)))
  refine wpAny_bind (loop_rules (fun i u => ?_) ?_ _)
  · by_cases hh : (its k m).seen.has i = true
    · rw [if_pos hh]; exact .inr ⟨_, rfl⟩
    · rw [if_neg hh]; exact .inl rfl
  · match r, he, h with
    | none, he, h => simp only [he]; exact wpAny_pure h
    | some (a, b), he, h =>
      simp only [he.1]
      exact wpAny_pure (h _ he.2.1 he.2.2)
end
end
section
theorem fresh_Ss : True := by w_top off; trivial
open PySem.Builtin PySem.Builtin.Re
/-- what a replacing comes to -/
inductive SubRel (R : Nat → Option Nat) (x rp : List Nat) : Nat → List Nat → Prop
  | stop {a : Nat} : (∀ s, a ≤ s → R s = none) → SubRel R x rp a (x.drop a)
  | more {a s e : Nat} {out : List Nat} : a ≤ s → R s = some e → (∀ s', a ≤ s' → s' < s → R s' = none) → SubRel R x rp e out → SubRel R x rp a ((x.drop a).take (s - a) ++ rp ++ out)
/-- a compiled pattern in the heap -/
structure Pat (h : Heap) (p : Addr) (C : Array Nat) : Prop where
  at_ : ∃ (a b : Value) (ct : Addr) (z : Tok), h.get? p = some { cls := .type "re.Pattern", data := .fields #[a, b, .int 0 0, .none, .none, .ref ct, .int 0 z] } ∧
    ∃ its n, h.get? ct = some { cls := .type "tuple", data := .seq its n } ∧ (its.map reRawOf).map (·.toNat) = C
theorem Pat.keeps {h h' : Heap} {p : Addr} {C : Array Nat} (x : Pat h p C) (k : ∀ b o, h.get? b = some o → h'.get? b = some o) : Pat h' p C := by
  obtain ⟨a, b, ct, z, h1, its, n, h2, h3⟩ := x.at_
  exact ⟨a, b, ct, z, k _ _ h1, its, n, k _ _ h2, h3⟩
theorem Pat.grew {h h' : Heap} {p pl : Addr} {C : Array Nat} {l : List (Str × Tok)} {e : Nat} (x : Pat h p C) (hl : h.get? pl = some (txts l e)) (k : ∀ c o, c ≠ pl → h.get? c = some o → h'.get? c = some o) : Pat h' p C := by
  obtain ⟨a, b, ct, z, h1, its, n, h2, h3⟩ := x.at_
  refine ⟨a, b, ct, z, k _ _ ?_ h1, its, n, k _ _ ?_ h2, h3⟩
  · intro q; rw [q, hl] at h1; have := congrArg Obj.cls (Option.some.inj h1); injection this with this; exact absurd this (by decide)
  · intro q; rw [q, hl] at h2; have := congrArg Obj.cls (Option.some.inj h2); injection this with this; exact absurd this (by decide)
theorem pat_U {P : Params} {h : Heap} (X : (KK P).In h) : Pat h 351 CU :=
  ⟨.str (Str.ofString "(?:\\r?\\n)+[ \\t]") 988, .int 32 1018, 350, 0, X _ _ (by kernel_rfl), CU.map fun n : Nat => Value.int (n : Int) 0, 0, X _ _ (by kernel_rfl), by kernel_rfl⟩
theorem pat_N {P : Params} {h : Heap} (X : (KK P).In h) : Pat h 356 CN :=
  ⟨.str (Str.ofString "\\r?\\n") 1021, .int 32 1039, 355, 0, X _ _ (by kernel_rfl), CN.map fun n : Nat => Value.int (n : Int) 0, 0, X _ _ (by kernel_rfl), by kernel_rfl⟩
section
variable {prog : Program} {w : World} {M : Model} {A : Around} {E : Value → Shared → Prop} {s : Shared} {p pl : Addr} {C : Array Nat} {x : Str} {t : Tok}
theorem whole_target {Q : ReTarget → Shared → Prop} (H : Pat s.heap p C) (h : Q { pattern := .ref p, string := .str x t, code := C, text := x.cps, kind := 0, groups := 0, pos := 0, lim := x.cps.size } s) : wpAny M A (reWholeTarget (.ref p) (.str x t)) Q E s := by
  obtain ⟨a, b, ct, z, h1, its, n, h2, h3⟩ := H.at_
  unfold reWholeTarget
  refine wpAny_bind (m := fieldsOf (.ref p)) (wpAny_bind (wpAny_load h1 (wpAny_pure ?_)))
  refine wpAny_bind (m := reTextOf (.str x t)) (wpAny_pure (a := (x.cps, 0)) ?_)
  refine wpAny_bind (m := reNoCollectionInside _ _) (wpAny_pure ?_)
  refine wpAny_bind (m := reRawItems _) (wpAny_bind (m := seqItems? _) (wpAny_bind (wpAny_load h2 (wpAny_pure (wpAny_pure ?_)))))
  refine wpAny_pure ?_
  show Q { pattern := .ref p, string := .str x t, code := (its.map reRawOf).map (·.toNat), text := x.cps, kind := 0, groups := 0, pos := 0, lim := x.cps.size } s
  rw [h3]
  exact h
theorem slice_mk {Q : Value → Shared → Prop} {a b : Nat} (hl : x.cps.size ≤ 1000000) (h : ∀ t' k, Q (.str ⟨x.cps.extract a b⟩ t') { s with toks := k }) : wpAny M A (reSlice x.cps 0 a b) Q E s := by
  show wpAny M A (mkStr ⟨x.cps.extract a b⟩) Q E s
  refine wpAny_mkStr (h _ _) ?_
  rw [sizeLine_eq]
  show (x.cps.extract a b).size ≤ _
  rw [Array.size_extract]; omega
theorem push_at {l : List (Str × Tok)} {e : Nat} {y : Str} {ty : Tok} {Q : Unit → Shared → Prop} (hl : s.heap.get? pl = some (txts l e)) (hz : l.length ≤ 3000000)
    (h : ∀ h', Heap.SameBut pl s.heap h' → h'.get? pl = some (txts (l ++ [(y, ty)]) (e + 1)) → Q () { s with heap := h' }) : wpAny M A (updateSeq pl (·.push (.str y ty))) Q E s := by
  refine wpAny_updateSeq hl rfl (h _ (Heap.SameBut.update ..) ?_) (by rw [sizeLine_eq]; simp [strValues]; omega) (by rw [Array.size_push, sizeLine_eq]; simp [strValues]; omega)
  rw [Heap.get?_update_self _ hl (by rw [mapSeq_push]; rfl), mapSeq_push, ← txts_push]
theorem q_loop (args : Args) : (Code.builtin "re.Pattern.sub.loop" args).quiet = true := by
  exact plainId_quiet (by decide +kernel) args
theorem entry_loop : entryFor table "re.Pattern.sub.loop" = some Builtin.«re.Pattern.sub.loop» := entryFor_of_tree (by kernel_rfl)
theorem plain_loop : plainId "re.Pattern.sub.loop" = true := by decide +kernel
theorem ext_list (l : List Nat) (a b : Nat) : (⟨(txt l).cps.extract a b⟩ : Str) = txt ((l.drop a).take (b - a)) := by
  apply congrArg Str.mk
  apply Array.toList_inj.mp
  simp [txt, Array.toList_extract, List.extract_eq_drop_take]
/-- a search that finds what R says -/
noncomputable def Finds (C T : Array Nat) (R : Nat → Option Nat) : Prop := ∀ pos, pos ≤ T.size → ∃ r K, K ≤ 2 ^ 60 ∧ FirstAt R pos r ∧ Ends K (Sre.forSearch C T 0 pos T.size false) r
theorem sum_lensS : ∀ ls : List (List Nat), ((ls.map txt).map (·.length)).sum = ls.flatten.length
  | [] => rfl
  | a :: r => by rw [List.map_cons, List.map_cons, List.sum_cons, sum_lensS r, str_len_txt, List.flatten_cons, List.length_append]
theorem join_empty (t : Tok) (parts : List (List Nat)) (l : List (Str × Tok)) (e : Nat) {Q : Value → Shared → Prop} (hl : s.heap.get? pl = some (txts l e)) (hp : l.map (·.1) = parts.map txt) (h1 : parts.flatten.length + parts.length ≤ 1000000)
    (h : ∀ t' k, Q (.str (txt parts.flatten) t') { s with toks := k }) : wpAny (model prog w) A (call (.builtin "str.join") [.str (txt []) t, .ref pl]) Q E s := by
  refine SC.join ⟨_, hl, rfl, e, rfl⟩ hp (joinOk_of_weight (by rw [sum_lensS, List.length_map]; omega) (by decide)) ?_
  intro t' k
  rw [join_txt, jn_nil]
  exact h t' k
theorem sub_loop {xl rp : List Nat} {R : Nat → Option Nat} {u : Tok} {RR : Result → Shared → Prop} (hC : Finds C (txt xl).cps R) (hx : xl.length ≤ 200000) (hrp : rp.length ≤ 1) (hR : ∀ a e, R a = some e → a < e ∧ e ≤ xl.length) :
    ∀ (f a : Nat) (n : Int) (l : List (Str × Tok)) (parts : List (List Nat)) (e : Nat) (s : Shared), xl.length < a + f → a ≤ xl.length → s.heap.get? pl = some (txts l e) → Pat s.heap p C → l.map (·.1) = parts.map txt → l.length ≤ 2 * a → parts.flatten.length ≤ 2 * a →
      (∀ t' h' tk out, SubRel R xl rp a out → Grew [pl] s.heap h' → RR (.ok (.ret (.str (txt (parts.flatten ++ out)) t'))) { s with heap := h', toks := tk }) →
      codeAny (model prog w) A (.builtin "re.Pattern.sub.loop" ⟨[.ref p, .str (txt xl) t, .str (txt rp) u, rawInt 0, rawInt 0, rawInt n, rawInt (a : Int), rawInt (a : Int), .bool false, .ref pl, .bool false], []⟩) RR s := by
  intro f
  induction f with
  | zero => intro a n l parts e s h1 h2; omega
  | succ f ih =>
    intro a n l parts e s h1 h2 hl H hp hll hpl hret
    have hsz : (txt xl).cps.size = xl.length := by simp [txt]
    refine codeAny_builtin entry_loop ?_
    rw [Around.under_plainId plain_loop _]
    refine wpAny_bind (whole_target H ?_)
    show wpAny _ _ (reLiteralCannotBeTurned (.str (txt rp) u) >>= _) _ _ _
    refine wpAny_bind (wpAny_bind (m := asStr? _) (wpAny_pure (wpAny_pure ?_)))
    show wpAny _ _ (reRunToEnd (Sre.forSearch C (txt xl).cps 0 a (txt xl).cps.size false) >>= _) _ _ _
    obtain ⟨r, K, hK, hF, hE⟩ := hC a (by rw [hsz]; exact h2)
    refine wpAny_bind (run_to_end hE hK ?_)
    have hpieces : ∀ (l' : List (Str × Tok)) (parts' : List (List Nat)) (e' : Nat) (s' : Shared), s'.heap.get? pl = some (txts l' e') → l'.map (·.1) = parts'.map txt → parts'.flatten.length + parts'.length ≤ 1000000 →
        (∀ t' k, RR (.ok (.ret (.str (txt parts'.flatten) t'))) { s' with toks := k }) →
        wpAny (model prog w) A.in1 (do
          let joiner ← reSlice (txt xl).cps 0 0 0
          let q ← seqItems? (Value.ref pl)
          if (q.getD #[]).isEmpty = true then do
              let text ← pure joiner
              if false = true then do
                  let r ← holding [text] do
                        let r ← mkInt n
                        newTuple [text, r]
                  ret r
                else ret text
            else do
              let text ← call (Value.builtin (if (0 == 0) = true then "str.join" else "bytes.join")) [joiner, Value.ref pl]
              if false = true then do
                  let r ← holding [text] do
                        let r ← mkInt n
                        newTuple [text, r]
                  ret r
                else ret text)
          (fun fin s' => match fin with | .done f => RR (.ok f) s' | .again c' => c'.quiet = true ∧ codeAny (model prog w) A c' RR s') (fun e s' => RR (.error e) s') s' := by
      intro l' parts' e' s' hl' hp' hw hfin
      refine wpAny_bind (slice_mk (by rw [hsz]; omega) fun t1 k1 => ?_)
      have e0 : (⟨(txt xl).cps.extract 0 0⟩ : Str) = txt [] := by rw [ext_list]; rfl
      rw [e0]
      refine wpAny_bind (m := seqItems? _) (wpAny_bind (wpAny_load hl' (wpAny_pure ?_)))
      show wpAny _ _ (if ((strValues l').toArray).isEmpty = true then _ else _) _ _ _
      cases l' with
      | nil =>
        have : parts' = [] := by
          have := congrArg List.length hp'
          simp only [List.length_map, List.length_nil] at this
          exact List.eq_nil_of_length_eq_zero this.symm
        subst this
        rw [if_pos (by rfl)]
        exact wpAny_bind (wpAny_pure (wpAny_pure (hfin _ _)))
      | cons q l'' =>
        rw [if_neg (by simp [strValues])]
        refine wpAny_bind (join_empty t1 parts' (q :: l'') e' hl' hp' hw fun t2 k2 => ?_)
        exact wpAny_pure (hfin _ _)
    have hpn : parts.length = l.length := by have := congrArg List.length hp; simpa using this.symm
    match r, hF with
    | none, hF =>
      dsimp only
      show wpAny _ _ (if a < (txt xl).cps.size then _ else _) _ _ _
      by_cases ha : a < (txt xl).cps.size
      · rw [if_pos ha]
        refine wpAny_bind (slice_mk (by rw [hsz]; omega) fun t1 k1 => ?_)
        refine wpAny_bind (push_at hl (by omega) fun h' hsb hl' => ?_)
        change h'.get? pl = some (txts (l ++ [((⟨(txt xl).cps.extract a (txt xl).cps.size⟩ : Str), t1)]) (e + 1)) at hl'
        rw [ext_list] at hl'
        refine hpieces _ (parts ++ [(xl.drop a).take ((txt xl).cps.size - a)]) _ _ hl' (by rw [List.map_append, hp, List.map_append]; rfl) (by simp only [List.flatten_append, List.flatten_cons, List.flatten_nil, List.append_nil, List.length_append, List.length_take, List.length_drop, List.length_cons, List.length_nil]; omega) fun t2 k2 => ?_
        have := hret t2 h' k2 (xl.drop a) (.stop hF) ⟨fun c o hc ho => hsb.extBut c o (fun q => hc (q ▸ .head _)) ho, by rw [hsb.1]; exact Nat.le_refl _⟩
        rw [List.take_of_length_le (by rw [List.length_drop, hsz]; exact Nat.le_refl _)]
        simpa using this
      · rw [if_neg ha]
        refine hpieces l parts e s hl hp (by omega) fun t2 k2 => ?_
        have := hret t2 s.heap k2 (xl.drop a) (.stop hF) (Grew.refl _ _)
        rw [List.drop_eq_nil_of_le (by omega), List.append_nil] at this
        exact this
    | some (b, c), hF =>
      obtain ⟨f1, f2, f3⟩ := hF
      obtain ⟨r1, r2⟩ := hR _ _ f2
      intro m' hm1 hm2
      dsimp only
      have hmust : (m'.handed == m'.start) = false := by rw [hm1, hm2]; exact beq_eq_false_iff_ne.mpr (by omega)
      rw [hm1, hm2] at hmust
      rw [hm1, hm2, hmust]
      show wpAny _ _ (if a < b then _ else _) _ _ _
      by_cases ha : a < b
      · rw [if_pos ha]
        refine wpAny_bind (slice_mk (by rw [hsz]; omega) fun t1 k1 => ?_)
        refine wpAny_bind (push_at hl (by omega) fun h' hsb hl' => ?_)
        change h'.get? pl = some (txts (l ++ [((⟨(txt xl).cps.extract a b⟩ : Str), t1)]) (e + 1)) at hl'
        rw [ext_list] at hl'
        rw [if_pos (by rfl)]
        refine wpAny_bind (wpAny_pure ?_)
        rw [if_pos (by rfl)]
        refine wpAny_bind (push_at hl' (by rw [List.length_append]; simp; omega) fun h'' hsb' hl'' => wpAny_pure ⟨q_loop _, ?_⟩)
        refine ih c (n + 1) _ (parts ++ [(xl.drop a).take (b - a)] ++ [rp]) _ _ (by omega) r2 hl'' ?_ ?_ ?_ ?_ ?_
        · exact (H.grew hl fun c o hc ho => hsb.extBut c o hc ho).grew hl' fun c o hc ho => hsb'.extBut c o hc ho
        · rw [List.map_append, List.map_append, hp, List.map_append, List.map_append]; rfl
        · rw [List.length_append, List.length_append]; simp; omega
        · simp only [List.flatten_append, List.flatten_cons, List.flatten_nil, List.append_nil, List.length_append, List.length_take, List.length_drop, List.length_cons, List.length_nil]; omega
        · intro t' h3 tk out hs G
          have := hret t' h3 tk _ (.more f1 f2 f3 hs) ⟨fun c o hc ho => G.keep c o hc (hsb'.extBut c o (fun q => hc (q ▸ .head _)) (hsb.extBut c o (fun q => hc (q ▸ .head _)) ho)), ?_⟩
          · simpa using this
          · have := G.size
            have e1 : h''.objs.size = h'.objs.size := hsb'.1
            have e2 : h'.objs.size = s.heap.objs.size := hsb.1
            have e3 : h''.objs.size ≤ h3.objs.size := this
            omega
      · rw [if_neg ha]
        obtain rfl : a = b := by omega
        rw [if_pos (by rfl)]
        refine wpAny_bind (wpAny_pure ?_)
        rw [if_pos (by rfl)]
        refine wpAny_bind (push_at hl (by omega) fun h'' hsb' hl'' => wpAny_pure ⟨q_loop _, ?_⟩)
        refine ih c (n + 1) _ (parts ++ [rp]) _ _ (by omega) r2 hl'' ?_ ?_ ?_ ?_ ?_
        · exact H.grew hl fun c o hc ho => hsb'.extBut c o hc ho
        · rw [List.map_append, hp, List.map_append]; rfl
        · rw [List.length_append]; simp; omega
        · simp only [List.flatten_append, List.flatten_cons, List.flatten_nil, List.append_nil, List.length_append, List.length_take, List.length_drop, List.length_cons, List.length_nil]; omega
        · intro t' h3 tk out hs G
          have := hret t' h3 tk _ (.more f1 f2 f3 hs) ⟨fun c o hc ho => G.keep c o hc (hsb'.extBut c o (fun q => hc (q ▸ .head _)) ho), ?_⟩
          · simpa using this
          · have := G.size
            have e1 : h''.objs.size = s.heap.objs.size := hsb'.1
            have e3 : h''.objs.size ≤ h3.objs.size := this
            omega
end
end
section
theorem fresh_Sx : True := by w_top off; trivial
open PySem.Builtin PySem.Builtin.Re
theorem owner_re : Manifest.owners.lookup (String.ofList ['n', 'r', 'e', 't', 't', 'a', 'P', '.', 'e', 'r'].reverse) = some Manifest.sig_re_Pattern := by kernel_rfl
theorem args_sub (a b c : Value) : argsOk "re.Pattern.sub" ⟨[a, b, c], []⟩ := by
  unfold argsOk; rw [signature?_of (id := "re.Pattern.sub") (n := ['b', 'u', 's']) (o := ['n', 'r', 'e', 't', 't', 'a', 'P', '.', 'e', 'r']) (by kernel_rfl) owner_re]; kernel_rfl
theorem slot_sub : Slot "re.Pattern" "sub" "re.Pattern.sub" :=
  .of (owner := "re.Pattern") (n := "sub") (by rw [typeLookup_type, builtinLookup_eq_fast]; kernel_rfl) (by decide +kernel) (by decide +kernel) (by decide +kernel)
    (by first | exact .inl (by decide +kernel) | exact .inr (by decide +kernel)) (by rw [isSubtype_type]; kernel_rfl)
theorem type_sub : typeOf (.builtin "re.Pattern.sub") = pure (.type "method_descriptor") := by show builtinType _ = _; rw [builtinType_eq_fast]; kernel_rfl
theorem entry_sub : entryFor table "re.Pattern.sub" = some Builtin.«re.Pattern.sub» := entryFor_of_tree (by kernel_rfl)
theorem plainAttrs_re : PlainAttrs "re.Pattern" :=
  ⟨⟨"object.__getattribute__", by rw [typeLookup_type, builtinLookup_eq_fast]; kernel_rfl, by decide +kernel⟩, by rw [typeLookup_type, builtinLookup_eq_fast]; kernel_rfl⟩
theorem str_noCall : typeLookup (.type "str") (Str.ofString "__call__") = pure none := by rw [typeLookup_type, builtinLookup_eq_fast]; kernel_rfl
theorem named_sub (a b : Value) : reNamed "re.Pattern.sub" "sub" ["repl", "string", "count"] 2 [a, b] [] = pure [some a, some b, none] := by rfl
theorem Pat.type {s : Shared} {p : Addr} {C : Array Nat} (H : Pat s.heap p C) : s.TypeIs (.ref p) "re.Pattern" := by
  obtain ⟨a, b, ct, z, h1, _⟩ := H.at_
  exact ⟨_, h1, rfl⟩
section
variable {prog : Program} {w : World} {M : Model} {A : Around} {E : Value → Shared → Prop} {s : Shared} {p : Addr} {C : Array Nat} {t u : Tok}
theorem sub_method {pl : Sem Bool} {Q : Value × List Value → Shared → Prop} (H : Pat s.heap p C) (h : Q (.builtin "re.Pattern.sub", [.ref p]) s) : wpAny M A (getMethod (.ref p) "sub" pl) Q E s := by
  refine getMethod_builtin H.type plainAttrs_re slot_sub type_sub ?_ h
  obtain ⟨a, b, ct, z, h1, _⟩ := H.at_
  intro b hb
  cases hb
  exact ⟨_, h1, rfl⟩
theorem sub_call {xl rp : List Nat} {R : Nat → Option Nat} {Q : Value → Shared → Prop} (H : Pat s.heap p C) (hC : Finds C (txt xl).cps R) (hx : xl.length ≤ 200000) (hrp : rp.length ≤ 1) (h92 : 92 ∉ rp) (hR : ∀ a e, R a = some e → a < e ∧ e ≤ xl.length)
    (h : ∀ t' h' tk out, SubRel R xl rp 0 out → Grew [] s.heap h' → Q (.str (txt out) t') { s with heap := h', toks := tk }) :
    wpAny (model prog w) A (call (.builtin "re.Pattern.sub") [.ref p, .str (txt rp) u, .str (txt xl) t]) Q E s := by
  refine wpAny_call (codeAny_call_builtin slot_sub.plain entry_sub (slot_sub.check _ _ _ _ _ _ _ _ H.type (args_sub _ _ _) ?_))
  show wpAny _ _ (reNamed "re.Pattern.sub" "sub" ["repl", "string", "count"] 2 [.str (txt rp) u, .str (txt xl) t] [] >>= _) _ _ _
  rw [named_sub]
  refine wpAny_bind (wpAny_pure ?_)
  dsimp only
  refine wpAny_bind (wpAny_pure ?_)
  refine wpAny_bind (wpAny_specialOf (typeIs_str _ _ _) str_noCall ?_)
  dsimp only [Option.isSome_none]
  rw [if_neg Bool.false_ne_true]
  refine wpAny_bind (m := asStr? _) (wpAny_pure ?_)
  have hlit : ((txt rp).cps.contains 92) = false := by
    rw [Bool.eq_false_iff]
    intro q
    exact h92 (by simpa [txt] using q)
  dsimp only
  rw [hlit]
  refine wpAny_bind (wpAny_pure ?_)
  rw [if_neg Bool.false_ne_true, if_pos (by rfl)]
  refine wpAny_bind (wpAny_pure ?_)
  refine wpAny_bind (wpAny_holding (whole_target H ?_))
  rw [if_neg (by dsimp only; decide)]
  refine wpAny_bind (wpAny_newObj_type (wpAny_pure ⟨q_loop _, ?_⟩))
  have hnew : ({ s with heap := s.heap.push { cls := .type "list", dict := none, data := .seq ([] : List Value).toArray } } : Shared).heap.get? s.heap.objs.size = some (txts [] 0) := Heap.get?_push_size _ rfl
  refine sub_loop (pl := s.heap.objs.size) hC hx hrp hR (xl.length + 1) 0 0 [] [] 0 _ (by omega) (Nat.zero_le _) hnew (H.keeps fun b o e => Heap.get?_push_of_some _ e) rfl (Nat.zero_le _) (Nat.zero_le _) ?_
  intro t' h' tk out hs G
  refine h t' h' tk out hs ⟨fun c o _ ho => ?_, ?_⟩
  · refine G.keep c o ?_ (Heap.get?_push_of_some _ ho)
    intro q
    rw [List.mem_singleton.mp q] at ho
    exact absurd (Heap.lt_size ho) (Nat.lt_irrefl _)
  · have := G.size
    have e1 : (s.heap.push { cls := .type "list", dict := none, data := .seq ([] : List Value).toArray }).objs.size = s.heap.objs.size + 1 := Heap.size_push _ _
    have e2 : (s.heap.push { cls := .type "list", dict := none, data := .seq ([] : List Value).toArray }).objs.size ≤ h'.objs.size := this
    omega
end
end
section
theorem fresh_Pu : True := by w_top off; trivial
theorem getD_txt (x : List Nat) (p : Nat) : (txt x).cps.getD p 0 = x[p]?.getD 0 := by simp [txt, Array.getD_eq_getD_getElem?]
theorem size_txt (x : List Nat) : (txt x).cps.size = x.length := by simp [txt]
theorem nlw1 {x : List Nat} {p : Nat} {r : List Nat} (h : x.drop p = 10 :: r) : nlw (txt x).cps p = 1 := by
  have h1 : x[p]? = some 10 := by have := congrArg List.head? h; simpa [List.head?_drop] using this
  have h2 := (List.getElem?_eq_some_iff.mp h1).1
  unfold nlw
  rw [if_pos ⟨by rw [size_txt]; exact h2, by rw [getD_txt, h1]; rfl⟩]
theorem nlw2 {x : List Nat} {p : Nat} {r : List Nat} (h : x.drop p = 13 :: 10 :: r) : nlw (txt x).cps p = 2 := by
  have h1 : x[p]? = some 13 := by have := congrArg List.head? h; simpa [List.head?_drop] using this
  have h3 : x[p + 1]? = some 10 := by
    have := congrArg (fun l => l[1]?) h
    simpa [List.getElem?_drop] using this
  have h2 := (List.getElem?_eq_some_iff.mp h3).1
  unfold nlw
  rw [if_neg (fun q => by have := q.2; rw [getD_txt, h1] at this; simp at this), if_pos ⟨by rw [size_txt]; exact h2, by rw [getD_txt, h1]; rfl, by rw [getD_txt, h3]; rfl⟩]
theorem nlw_cases (x : List Nat) (p : Nat) : (∃ r, x.drop p = 10 :: r ∧ nlw (txt x).cps p = 1) ∨ (∃ r, x.drop p = 13 :: 10 :: r ∧ nlw (txt x).cps p = 2) ∨ (nlw (txt x).cps p = 0 ∧ (x.drop p).head? ≠ some 10 ∧ (x.drop p).take 2 ≠ [13, 10]) := by
  by_cases h1 : (x.drop p).head? = some 10
  · cases q : x.drop p with
    | nil => rw [q] at h1; cases h1
    | cons a r =>
      rw [q] at h1; cases h1
      exact .inl ⟨r, rfl, nlw1 q⟩
  · by_cases h2 : (x.drop p).take 2 = [13, 10]
    · cases q : x.drop p with
      | nil => rw [q] at h2; cases h2
      | cons a r =>
        cases r with
        | nil => rw [q] at h2; simp at h2
        | cons b r =>
          rw [q] at h2
          simp only [List.take_succ_cons, List.take_zero, List.cons.injEq, and_true] at h2
          obtain ⟨rfl, rfl⟩ := h2
          exact .inr (.inl ⟨r, rfl, nlw2 q⟩)
    · refine .inr (.inr ⟨?_, h1, h2⟩)
      unfold nlw
      rw [if_neg, if_neg]
      · rintro ⟨a, b, c⟩
        rw [size_txt] at a
        apply h2
        rw [List.drop_eq_getElem_cons (by omega), List.drop_eq_getElem_cons (by omega)]
        rw [getD_txt, List.getElem?_eq_getElem (by omega)] at b c
        simp only [Option.getD_some] at b c
        simp [b, c]
      · rintro ⟨a, b⟩
        rw [size_txt] at a
        apply h1
        rw [List.drop_eq_getElem_cons a]
        rw [getD_txt, List.getElem?_eq_getElem a] at b
        simp only [Option.getD_some] at b
        simp [b]
theorem drop_more {x : List Nat} {p : Nat} {a r : List Nat} (h : x.drop p = a ++ r) : x.drop (p + a.length) = r := by
  rw [← List.drop_drop, h, List.drop_left]
theorem nls_suffix : ∀ l : List Nat, ∃ pre, l = pre ++ nls l
  | [] => ⟨[], rfl⟩
  | c :: r => by
    by_cases hc : c = 10
    · subst hc
      obtain ⟨pre, e⟩ := nls_suffix r
      exact ⟨10 :: pre, by rw [nls_10, List.cons_append, ← e]⟩
    · cases r with
      | nil => exact ⟨[], by rw [nls.eq_def]; simp [hc]⟩
      | cons d q =>
        by_cases h : c = 13 ∧ d = 10
        · obtain ⟨rfl, rfl⟩ := h
          obtain ⟨pre, e⟩ := nls_suffix q
          exact ⟨13 :: 10 :: pre, by rw [nls_1310, List.cons_append, List.cons_append, ← e]⟩
        · exact ⟨[], by rw [nls.eq_def]; simp [hc, h]⟩
theorem u_spec (x : List Nat) : ∀ f p, x.length < p + f → p ≤ x.length → match uR (txt x).cps f p with
    | some e => p < e ∧ e ≤ x.length ∧ ∃ b, nls (x.drop p) = b :: x.drop e ∧ (x.drop e).length + 1 < (x.drop p).length ∧ (b = 32 ∨ b = 9)
    | none => ∀ b q, nls (x.drop p) = b :: q → q.length + 1 < (x.drop p).length → ¬ (b = 32 ∨ b = 9)
  | 0, p, h1, h2 => absurd h1 (by omega)
  | f + 1, p, h1, h2 => by
    have step : ∀ w D', 0 < w → nlw (txt x).cps p = w → x.drop (p + w) = D' → nls (x.drop p) = nls D' → p + w ≤ x.length → (match uR (txt x).cps (f + 1) p with
        | some e => p < e ∧ e ≤ x.length ∧ ∃ b, nls (x.drop p) = b :: x.drop e ∧ (x.drop e).length + 1 < (x.drop p).length ∧ (b = 32 ∨ b = 9)
        | none => ∀ b q, nls (x.drop p) = b :: q → q.length + 1 < (x.drop p).length → ¬ (b = 32 ∨ b = 9)) := by
      intro w D' hw hn hD hnl hle
      have ih := u_spec x f (p + w) (by omega) hle
      have hlen : (x.drop p).length = (x.drop (p + w)).length + w := by simp only [List.length_drop]; omega
      rw [uR, hn, if_neg (Nat.ne_of_gt hw)]
      cases q : uR (txt x).cps f (p + w) with
      | some e =>
        rw [q] at ih
        obtain ⟨i1, i2, b, i3, i4, i5⟩ := ih
        dsimp only
        refine ⟨by omega, i2, b, by rw [hnl, ← hD, i3], by omega, i5⟩
      | none =>
        rw [q] at ih
        dsimp only
        by_cases hb : p + w < (txt x).cps.size ∧ ((txt x).cps.getD (p + w) 0 = 32 ∨ (txt x).cps.getD (p + w) 0 = 9)
        · rw [if_pos hb]
          rw [size_txt, getD_txt] at hb
          obtain ⟨hb1, hb2⟩ := hb
          rw [List.getElem?_eq_getElem hb1] at hb2
          simp only [Option.getD_some] at hb2
          have hc := List.drop_eq_getElem_cons hb1
          have hk : nls (x.drop (p + w)) = x.drop (p + w) := by
            refine nls_not ?_ ?_
            · rw [hc]; intro z
              simp only [List.head?_cons, Option.some.injEq] at z
              rcases hb2 with h | h <;> (rw [z] at h; cases h)
            · rw [hc]; intro z
              simp only [List.take_succ_cons, List.cons.injEq] at z
              rcases hb2 with h | h <;> (rw [z.1] at h; cases h)
          refine ⟨by omega, by omega, x[p + w], ?_, ?_, hb2⟩
          · rw [hnl, ← hD, hk, hc]
          · simp only [List.length_drop]; omega
        · rw [if_neg hb]
          intro b r hr hlr
          rw [hnl, ← hD] at hr
          by_cases hl2 : r.length + 1 < (x.drop (p + w)).length
          · exact ih b r hr hl2
          · obtain ⟨pre, hpre⟩ := nls_suffix (x.drop (p + w))
            rw [hr] at hpre
            have := congrArg List.length hpre
            simp only [List.length_append, List.length_cons] at this
            have hp0 : pre = [] := List.eq_nil_of_length_eq_zero (by omega)
            rw [hp0, List.nil_append] at hpre
            intro hb3
            apply hb
            have hlt : p + w < x.length := by
              have := congrArg List.length hpre
              simp only [List.length_drop, List.length_cons] at this; omega
            rw [size_txt, getD_txt, List.getElem?_eq_getElem hlt]
            refine ⟨hlt, ?_⟩
            rw [List.drop_eq_getElem_cons hlt] at hpre
            have := (List.cons.inj hpre).1
            simp only [Option.getD_some]
            rw [this]; exact hb3
    rcases nlw_cases x p with ⟨r, h3, h4⟩ | ⟨r, h3, h4⟩ | ⟨h3, h4, h5⟩
    · have hd := drop_more (a := [10]) h3
      refine step 1 r (by omega) h4 hd (by rw [h3, nls_10]) ?_
      have := congrArg List.length h3; simp only [List.length_drop, List.length_cons] at this; omega
    · have hd := drop_more (a := [13, 10]) h3
      refine step 2 r (by omega) h4 hd (by rw [h3, nls_1310]) ?_
      have := congrArg List.length h3; simp only [List.length_drop, List.length_cons] at this; omega
    · rw [uR, if_pos h3]
      intro b q hq hl
      rw [nls_not h4 h5] at hq
      rw [hq] at hl
      exact absurd hl (by simp)
theorem keep_run (x : List Nat) (R : Nat → Option Nat) (hR : ∀ p, p < x.length → R p = none → ∀ b q, nls (x.drop p) = b :: q → q.length + 1 < (x.drop p).length → ¬ (b = 32 ∨ b = 9)) :
    ∀ k a, a + k ≤ x.length → (∀ s, a ≤ s → s < a + k → R s = none) → unf (x.drop a) = (x.drop a).take k ++ unf (x.drop (a + k))
  | 0, a, h1, h2 => by simp
  | k + 1, a, h1, h2 => by
    have hlt : a < x.length := by omega
    have hc := List.drop_eq_getElem_cons hlt
    have h3 := hR a hlt (h2 a (Nat.le_refl _) (by omega))
    rw [hc]
    rw [hc] at h3
    rw [unf_keep (fun b q e hl => h3 b q e (by simp only [List.length_cons]; omega))]
    rw [List.take_succ_cons, keep_run x R hR k (a + 1) (by omega) (fun s h4 h5 => h2 s (by omega) (by omega))]
    rw [show a + 1 + k = a + (k + 1) by omega]
    rfl
theorem sub_unf {x : List Nat} {a : Nat} {out : List Nat} (h : SubRel (uR (txt x).cps ((txt x).cps.size + 1)) x [] a out) : a ≤ x.length → out = unf (x.drop a) := by
  have hR : ∀ p, p < x.length → uR (txt x).cps ((txt x).cps.size + 1) p = none → ∀ b q, nls (x.drop p) = b :: q → q.length + 1 < (x.drop p).length → ¬ (b = 32 ∨ b = 9) := by
    intro p hp hn
    have := u_spec x ((txt x).cps.size + 1) p (by rw [size_txt]; omega) (by omega)
    rw [hn] at this
    exact this
  induction h with
  | @stop a hs =>
    intro ha
    have := keep_run x _ hR (x.length - a) a (by omega) (fun s h1 h2 => hs s h1)
    rw [this, show a + (x.length - a) = x.length by omega, List.drop_length, unf_nil, List.append_nil, List.take_of_length_le (by rw [List.length_drop]; exact Nat.le_refl _)]
  | @more a s e out h1 h2 h3 h4 ih =>
    intro ha
    have hs : s < x.length := by
      rcases Nat.lt_or_ge s x.length with h | h
      · exact h
      · rw [uR_out (by rw [size_txt]; omega)] at h2; cases h2
    have := u_spec x ((txt x).cps.size + 1) s (by rw [size_txt]; omega) (by omega)
    rw [h2] at this
    obtain ⟨g1, g2, b, g3, g4, g5⟩ := this
    have := keep_run x _ hR (s - a) a (by omega) (fun s' h1 h2 => h3 s' h1 (by omega))
    rw [show a + (s - a) = s by omega] at this
    rw [this, ih g2, List.append_nil]
    congr 1
    have hc := List.drop_eq_getElem_cons hs
    rw [hc] at g3 g4 ⊢
    exact (unf_drop g3 (by simp only [List.length_cons] at g4; omega) g5).symm
/-- a text's parts between line feeds -/
noncomputable def split10 : List Nat → List (List Nat)
  | [] => [[]]
  | c :: r => if c = 10 then [] :: split10 r else match split10 r with
    | [] => [[c]]
    | h :: t => (c :: h) :: t
theorem split10_ne : ∀ l, split10 l ≠ []
  | [] => by simp [split10]
  | c :: r => by
    rw [split10]
    split
    · simp
    · split <;> simp
theorem split10_seg (l : List Nat) : ∀ seg : List Nat, 10 ∉ seg → split10 (seg ++ 10 :: l) = seg :: split10 l
  | [], _ => by simp [split10]
  | c :: r, h => by
    have hc : c ≠ 10 := fun e => h (by rw [e]; exact .head _)
    rw [List.cons_append, split10, if_neg hc, split10_seg l r (fun q => h (.tail _ q))]
theorem split10_one : ∀ seg : List Nat, 10 ∉ seg → split10 seg = [seg]
  | [], _ => rfl
  | c :: r, h => by
    have hc : c ≠ 10 := fun e => h (by rw [e]; exact .head _)
    rw [split10, if_neg hc, split10_one r (fun q => h (.tail _ q))]
theorem lsGo_run (l : List Nat) : ∀ (seg line : List Nat), 10 ∉ seg → lsGo (seg ++ l) line = lsGo l (line ++ seg)
  | [], line, _ => by simp
  | c :: r, line, h => by
    have hc : c ≠ 10 := fun e => h (by rw [e]; exact .head _)
    rw [List.cons_append, lsGo, if_neg hc, lsGo_run l r _ (fun q => h (.tail _ q))]
    simp
theorem nR_none {x : List Nat} {p : Nat} (h : nR (txt x).cps p = none) : nlw (txt x).cps p = 0 := by
  unfold nR at h
  by_cases q : nlw (txt x).cps p = 0
  · exact q
  · rw [if_neg q] at h; cases h
theorem no10 {x : List Nat} {a k : Nat} (h : ∀ s, a ≤ s → s < a + k → nR (txt x).cps s = none) : 10 ∉ (x.drop a).take k := by
  intro q
  obtain ⟨i, hi, e⟩ := List.mem_iff_getElem.mp q
  simp only [List.length_take, List.length_drop] at hi
  have h1 := nR_none (h (a + i) (by omega) (by omega))
  simp only [List.getElem_take, List.getElem_drop] at e
  have hc := List.drop_eq_getElem_cons (show a + i < x.length by omega)
  rw [e] at hc
  rw [nlw1 hc] at h1; cases h1
theorem sub_lines {x : List Nat} {a : Nat} {out : List Nat} (h : SubRel (nR (txt x).cps) x [10] a out) : a ≤ x.length → split10 out = lsGo (x.drop a) [] := by
  induction h with
  | @stop a hs =>
    intro ha
    have h1 : 10 ∉ x.drop a := by
      have := no10 (x := x) (a := a) (k := x.length) (fun s h1 _ => hs s h1)
      rwa [List.take_of_length_le (by rw [List.length_drop]; omega)] at this
    rw [split10_one _ h1]
    have := lsGo_run [] (x.drop a) [] h1
    rw [List.append_nil] at this
    rw [this]
    rfl
  | @more a s e out h1 h2 h3 h4 ih =>
    intro ha
    have hw : nlw (txt x).cps s ≠ 0 := by
      intro q; unfold nR at h2; rw [if_pos q] at h2; cases h2
    have he : e = s + nlw (txt x).cps s := by
      unfold nR at h2; rw [if_neg hw] at h2; exact (Option.some.inj h2).symm
    have hle := (nlw_le (txt x).cps s).2 (Nat.pos_of_ne_zero hw)
    rw [size_txt] at hle
    have hseg := no10 (x := x) (a := a) (k := s - a) (fun s' h1 h2 => h3 s' h1 (by omega))
    have hd : x.drop a = (x.drop a).take (s - a) ++ x.drop s := by
      have := (List.take_append_drop (s - a) (x.drop a)).symm
      rwa [List.drop_drop, show a + (s - a) = s by omega] at this
    have hlen : ((x.drop a).take (s - a)).length = s - a := by simp only [List.length_take, List.length_drop]; omega
    obtain ⟨seg, hsd⟩ : ∃ seg, seg = (x.drop a).take (s - a) := ⟨_, rfl⟩
    rw [← hsd] at hseg hd hlen ⊢
    rw [List.append_assoc]
    show split10 (seg ++ 10 :: out) = _
    rw [split10_seg _ _ hseg, ih (by omega), hd, lsGo_run _ _ _ hseg, List.nil_append]
    rcases nlw_cases x s with ⟨r, g3, g4⟩ | ⟨r, g3, g4⟩ | ⟨g3, g4, g5⟩
    · have hr := drop_more (a := [10]) g3
      have : x.drop e = r := by rw [he, g4]; exact hr
      rw [g3, lsGo, if_pos rfl, this]
      congr 1
      unfold chop
      rw [if_neg]
      intro q
      have hne : seg ≠ [] := by intro z; rw [z] at q; cases q
      obtain ⟨p, d, rfl⟩ : ∃ p d, seg = p ++ [d] := ⟨seg.dropLast, seg.getLast hne, (List.dropLast_concat_getLast hne).symm⟩
      rw [List.getLast?_concat] at q
      cases q
      rw [List.append_assoc] at hd
      have h9 := drop_more hd
      rw [g3] at h9
      have := nR_none (h3 (a + p.length) (by omega) (by simp at hlen; omega))
      rw [nlw2 h9] at this
      cases this
    · have hr := drop_more (a := [13, 10]) g3
      have : x.drop e = r := by rw [he, g4]; exact hr
      rw [g3, lsGo, if_neg (by decide), lsGo, if_pos rfl, this]
      congr 1
      unfold chop
      rw [if_pos (List.getLast?_concat ..), List.dropLast_concat]
    · exact absurd g3 hw
theorem finds_U {x : List Nat} (hx : x.length ≤ 200000) : Finds CU (txt x).cps (uR (txt x).cps ((txt x).cps.size + 1)) := by
  intro pos hp
  have hs := size_txt x
  obtain ⟨r, h1, h2⟩ := search_U (T := (txt x).cps) (by omega) hp
  refine ⟨r, _, ?_, h1, h2⟩
  have : (20 * ((txt x).cps.size + 1) + 12) * ((txt x).cps.size + 3) ≤ (20 * 200001 + 12) * 200003 := Nat.mul_le_mul (by omega) (by omega)
  omega
theorem finds_N {x : List Nat} (hx : x.length ≤ 200000) : Finds CN (txt x).cps (nR (txt x).cps) := by
  intro pos hp
  have hs := size_txt x
  obtain ⟨r, h1, h2⟩ := search_N (T := (txt x).cps) (by omega) hp
  exact ⟨r, _, by omega, h1, h2⟩
theorem lt_U {x : List Nat} : ∀ a e, uR (txt x).cps ((txt x).cps.size + 1) a = some e → a < e ∧ e ≤ x.length := by
  intro a e h
  have ha : a ≤ x.length := by
    rcases Nat.lt_or_ge a (x.length + 1) with h1 | h1
    · omega
    · rw [uR_out (by rw [size_txt]; omega)] at h; cases h
  have := u_spec x ((txt x).cps.size + 1) a (by rw [size_txt]; omega) ha
  rw [h] at this
  exact ⟨this.1, this.2.1⟩
theorem lt_N {x : List Nat} : ∀ a e, nR (txt x).cps a = some e → a < e ∧ e ≤ x.length := by
  intro a e h
  unfold nR at h
  by_cases hw : nlw (txt x).cps a = 0
  · rw [if_pos hw] at h; cases h
  · rw [if_neg hw] at h
    cases h
    have := (nlw_le (txt x).cps a).2 (Nat.pos_of_ne_zero hw)
    rw [size_txt] at this
    omega
theorem sub_len {R : Nat → Option Nat} {x rp : List Nat} (hR : ∀ a e, R a = some e → a < e ∧ e ≤ x.length) (hrp : rp.length ≤ 1) {a : Nat} {out : List Nat} (h : SubRel R x rp a out) : a ≤ x.length → out.length ≤ x.length - a := by
  induction h with
  | stop hs => intro ha; rw [List.length_drop]; exact Nat.le_refl _
  | @more a s e out h1 h2 h3 h4 ih =>
    intro ha
    have g := hR s e h2
    have := ih g.2
    simp only [List.length_append, List.length_take, List.length_drop]
    omega
section
variable {prog : Program} {w : World} {A : Around} {E : Value → Shared → Prop} {s : Shared} {P : Params} {t u : Tok} {Q : Value → Shared → Prop}
/-- UFOLD.sub('', text) -/
theorem ufold_sub {x : List Nat} (X : (KK P).In s.heap) (hx : x.length ≤ 200000) (h : ∀ t' h' tk, Grew [] s.heap h' → Q (.str (txt (unf x)) t') { s with heap := h', toks := tk }) :
    wpAny (model prog w) A (call (.builtin "re.Pattern.sub") [.ref 351, .str (txt []) u, .str (txt x) t]) Q E s :=
  sub_call (pat_U X) (finds_U hx) hx (by simp) (by simp) lt_U fun t' h' tk out hs G => by
    have := sub_unf hs (Nat.zero_le _)
    rw [List.drop_zero] at this
    rw [this]
    exact h t' h' tk G
/-- NEWLINE.sub('\n', text) -/
theorem newline_sub {x : List Nat} (X : (KK P).In s.heap) (hx : x.length ≤ 200000) (h : ∀ t' h' tk out, split10 out = lsGo x [] → out.length ≤ x.length → Grew [] s.heap h' → Q (.str (txt out) t') { s with heap := h', toks := tk }) :
    wpAny (model prog w) A (call (.builtin "re.Pattern.sub") [.ref 356, .str (txt [10]) u, .str (txt x) t]) Q E s :=
  sub_call (pat_N X) (finds_N hx) hx (by simp) (by simp) lt_N fun t' h' tk out hs G => h t' h' tk out (by simpa using sub_lines hs (Nat.zero_le _)) (by simpa using sub_len lt_N (by simp) hs (Nat.zero_le _)) G
end
end
section
theorem fresh_Mk : True := by w_top off; trivial
open PySem.Builtin
section
variable {prog : Program} {w : World} {A : Around} {E : Value → Shared → Prop} {s : Shared} {R : Result → Shared → Prop}
theorem cl_made {M : Model} {P : Params} {h : Heap} (X : (KK P).In h) : Looks M h (Bind.madeBy (.ref 443)) none := Looks.of_peek X (by kernel_rfl)
theorem cl_mroOf {M : Model} {P : Params} {h : Heap} (X : (KK P).In h) : Looks M h (mroOf (.ref 443)) [.ref 443, .type "str", .type "object"] := Looks.of_peek X (by kernel_rfl)
theorem cl_callSp {M : Model} {P : Params} {h : Heap} (X : (KK P).In h) : Looks M h (specialOf (.ref 443) "__call__") (some (.builtin "type.__call__")) := Looks.of_peek X (by kernel_rfl)
theorem cl_isType {M : Model} {P : Params} {h : Heap} (X : (KK P).In h) : Looks M h (isInstance (.ref 443) (.type "type")) true := Looks.of_peek X (by kernel_rfl)
theorem cl_init (P : Params) : findIn (KK P) (.ref 443) (Str.ofString "__init__") = some (some (.builtin "object.__init__")) := by kernel_rfl
theorem cl_self (P : Params) : mroIn (KK P) 443 (.ref 443) = some true := by kernel_rfl
theorem cl_new (P : Params) : findCls (KK P) (.ref 443) (.type "type") (Str.ofString "__new__") = some (.get (.builtin "staticmethod.__get__") (.ref 444) .none (.ref 443)) := by kernel_rfl
theorem cl_reads (P : Params) : readsIn (KK P) 443 (.type "type") = true := by kernel_rfl
theorem cl_rec (P : Params) : recIn (KK P) 444 "staticmethod" = some [.ref 389] := by kernel_rfl
theorem cl_typ (P : Params) : typeIn (KK P) (.ref 443) = some (.type "type") := by kernel_rfl
theorem cls_obj {K : Frag} {C : Addr} (h : (clsIn K C).isSome = true) : ∃ oc od cd sl, K.lookup C = some ⟨oc, od, .cls cd, sl⟩ := by
  unfold clsIn at h
  split at h
  · exact ⟨_, _, _, _, ‹_›⟩
  · cases h
theorem cl_some (P : Params) : (clsIn (KK P) 443).isSome = true := by kernel_rfl
theorem cl_attr {P : Params} {expr : Bool} {Q : Value → Shared → Prop} (X : (KK P).In s.heap) (h : Q (.ref 389) { s with toks := s.toks + 1 }) : wpAny (model prog w) A (getAttr (.ref 443) "__new__" expr) Q E s :=
  cls_bind X (cl_reads P) (cl_new P) (wpAny_call (sm_get (s := { s with toks := s.toks + 1 }) X (cl_rec P) (handed_on rfl h)))
theorem init_run {M : Model} {P : Params} {c : Addr} {v : Value} {x : Str} {Q : Fin → Shared → Prop} (X : (KK P).In s.heap) (hc : ClAt s.heap c x) (h : Q (.done (.ret .none)) s) : wpAny M A (Builtin.«object.__init__» ⟨[.ref c, v], []⟩) Q E s := by
  unfold Builtin.«object.__init__»
  obtain ⟨_, I⟩ := cl_inst hc
  have L1 := I.type (M := M)
  have L2 := looks_findIn (M := M) X (cl_init P)
  have L3 := cl_made (M := M) X
  show wpAny _ _ (typeOf (.ref c) >>= _) _ _ _
  refine wpAny_bind (L1.here ?_)
  refine wpAny_bind (L2.here ?_)
  refine wpAny_bind (L3.here ?_)
  exact wpAny_pure h
set_option maxHeartbeats 4000000 in
theorem make_cl {P : Params} {v : Value} (X : (KK P).In s.heap)
    (h : wpAny (model prog w) (A.under (.builtin "type.__call__" ⟨[.ref 443, v], []⟩)) (call (.ref 389) [.ref 443, v]) (fun obj s' => ∃ c x, obj = .ref c ∧ ClAt s'.heap c x ∧ (KK P).In s'.heap ∧ R (.ok (.ret (.ref c))) s') (fun e s' => R (.error e) s') { s with toks := s.toks + 1 }) :
    codeAny (model prog w) A (.call (.ref 443) ⟨[v], []⟩) R s := by
  have L1 := cl_callSp (M := model prog w) X
  have L2 := cl_mroOf (M := model prog w) X
  have L3 := cl_made (M := model prog w) X
  obtain ⟨hh, g, d, t, os⟩ := s
  obtain ⟨oc, od, cd, sl, hlk⟩ := cls_obj (cl_some P)
  have hoc : hh.get? 443 = some ⟨oc, od, .cls cd, sl⟩ := X _ _ hlk
  refine codeAny_of_tree ?_
  show wpAny _ _ (callAny (.ref 443) _) _ _ _
  refine nd_load hoc ?_
  show wpAny _ _ (callAny.viaDunder (.ref 443) _) _ _ _
  unfold callAny.viaDunder
  refine wpAny_bind (L1.at ?_)
  dsimp only
  rw [tc_bind]
  refine wpAny_bind (wpAny_pure (wpAny_bind (wpAny_pure ?_)))
  refine wpAny_pure (a := Fin.again (.call (.builtin "type.__call__") ⟨[.ref 443, v], []⟩)) (And.intro rfl ?_)
  refine codeAny_call_builtin_at (Code.quiet_builtin _ (by decide +kernel)) entry_typeCall (check_slot tc_kind tc_split (cl_isType X) (tc_args _ _ _) ?_)
  unfold Builtin.«type.__call__»
  show wpAny _ _ (mroOf (.ref 443) >>= _) _ _ _
  refine wpAny_bind (L2.at ?_)
  show wpAny _ _ (Bind.madeBy (.ref 443) >>= _) _ _ _
  refine wpAny_bind (L3.at ?_)
  dsimp only
  refine wpAny_bind (cl_attr X ?_)
  refine wpAny_bind (wpAny_holding (wpAny_mono h (fun obj s' h' => ?_) fun _ _ z => z))
  obtain ⟨c, x, rfl, hc, X', hR⟩ := h'
  obtain ⟨_, I⟩ := cl_inst hc
  refine wpAny_bind ((inst_looks X' I (cl_self P)).here ?_)
  show wpAny _ _ (holding [.ref c] (callSpecial? (.ref c) "__init__" [v] []) >>= _) _ _ _
  refine wpAny_bind (wpAny_holding (special_bi X' I (cl_init P) oi_bind ?_))
  have ha : argsOk "object.__init__" ⟨[.ref c, v], []⟩ := by unfold argsOk; kernel_rfl
  refine wpAny_call (codeAny_call_builtin oi_plain entry_oi (check_slot oi_kind oi_split (inst_looks X' I (cl_mro_obj P)) ha ?_))
  refine init_run X' hc ?_
  exact wpAny_pure hR
end
end
section
theorem fresh_Mn : True := by w_top off; trivial
open PySem.Builtin
section
variable {prog : Program} {w : World} {A : Around} {E : Value → Shared → Prop} {s : Shared} {R : Result → Shared → Prop}
open PySem.Builtin.Str in
theorem new_check {M : Model} {P : Params} {x : Str} {t : Tok} {h : Heap} (X : (KK P).In h) : Looks M h (checkBuiltinCall "str.__new__" ⟨[.ref 443, .str x t], []⟩) () := Looks.of_peek X (by kernel_rfl)
theorem entry_new : entryFor table "str.__new__" = some Builtin.«str.__new__» := entryFor_of_tree (by kernel_rfl)
theorem plain_new : plainId "str.__new__" = true := by decide +kernel
theorem cl_isT {M : Model} {P : Params} {h : Heap} (X : (KK P).In h) : Looks M h (isType (.ref 443)) true := Looks.of_peek X (by kernel_rfl)
theorem cl_hasDel {M : Model} {P : Params} {h : Heap} (X : (KK P).In h) : Looks M h (classHasDel 443) false := Looks.of_peek X (by kernel_rfl)
set_option maxHeartbeats 1000000 in
theorem str_new {P : Params} {x : Str} {t : Tok} {Q : Value → Shared → Prop} (X : (KK P).In s.heap) (hx : x.length ≤ 1000000)
    (h : ∀ c dx h' tk t', (∀ b o, s.heap.get? b = some o → h'.get? b = some o) → h'.get? c = some (clO x t' dx #[]) → h'.get? dx = some emptyDict → s.heap.objs.size = dx → dx + 1 = c → h'.objs.size = c + 1 → Q (.ref c) { s with heap := h', toks := tk }) :
    wpAny (model prog w) A (call (.builtin "str.__new__") [.ref 443, .str x t]) Q E s := by
  refine wpAny_call (codeAny_call_builtin plain_new entry_new ((new_check X).here ?_))
  show wpAny _ _ (isType (.ref 443) >>= _) _ _ _
  refine wpAny_bind ((cl_isT X).here ?_)
  show wpAny _ _ (isSubtype (.ref 443) (.type "str") >>= _) _ _ _
  refine wpAny_bind ((looks_mroIn X (cl_mro P)).here ?_)
  show wpAny _ _ (do rule "str.__new__.subclass"; let d ← some <$> alloc { cls := Value.type "dict", data := Data.dict #[] }; let m ← mkStr x; let o ← newObj (.ref 443) (.prim m) d; ret o) _ _ _
  refine wpAny_bind (wpAny_rule ?_)
  show wpAny _ _ ((alloc emptyDict >>= fun a => pure (some a)) >>= _) _ _ _
  refine wpAny_bind (wpAny_bind (wpAny_alloc (wpAny_pure ?_)))
  refine wpAny_bind (wpAny_mkStr ?_ (by rw [sizeLine_eq]; omega))
  have hp : ∀ u, (Data.prim (.str x u)).pastItsLine = none := fun u => by
    show (if x.length > sizeLine then _ else none) = none
    rw [if_neg (by rw [sizeLine_eq]; omega)]
  refine wpAny_bind ?_
  unfold newObj
  simp only [hp]
  show wpAny _ _ (newObjAsIs _ _ _) _ _ _
  unfold newObjAsIs
  refine wpAny_bind (wpAny_alloc ?_)
  have X' : (KK P).In ((s.heap.push emptyDict).push (clO x s.toks s.heap.objs.size #[])) := X.keeps fun b o e => Heap.get?_push_of_some _ (Heap.get?_push_of_some _ e)
  refine wpAny_bind ((cl_hasDel X').here ?_)
  refine wpAny_pure (wpAny_pure ?_)
  have hs1 : (s.heap.push emptyDict).objs.size = s.heap.objs.size + 1 := Heap.size_push _ _
  refine h _ s.heap.objs.size _ _ s.toks (fun b o e => Heap.get?_push_of_some _ (Heap.get?_push_of_some _ e)) (Heap.get?_push_size _ rfl) (Heap.get?_push_of_some _ (Heap.get?_push_size _ rfl)) rfl hs1.symm ?_
  rw [Heap.size_push]
end
end
section
theorem fresh_Ms : True := by w_top off; trivial
open PySem.Builtin PySem.W.X
theorem mem_keep {h h' : Heap} {news : List (Addr × Obj)} (D : Mem h h' [] news) : ∀ b o, h.get? b = some o → h'.get? b = some o := fun b o e => D.keep b o e (by simp [away])
theorem mem_new {h h' : Heap} {a : Addr} {o : Obj} {news : List (Addr × Obj)} (D : Mem h h' [] ((a, o) :: news)) : h'.get? a = some o ∧ h.get? a = none := D.nw (a, o) (.head _)
section
variable {w : World} {A : Around} {E : Value → Shared → Prop} {s : Shared} {Q : Value → Shared → Prop}
local macro_rules | `(tactic| x_close) => `(tactic| (apply_assumption; assumption))
set_option maxHeartbeats 4000000 in
theorem super_cl0 (X : (Mine.hd.heap_1 w.params).In s.heap) (hret : ∀ so h', Mem s.heap h' [] [(so, ks_superObj 443 443 443)] → Q (.ref so) ⟨h', s.gens, s.drawn, s.toks, s.os⟩) : wpAny (model PySem.Challenge.pw_be0022_01 w) A (call (.type "super") [.ref 443, .ref 443]) Q E s := by
  x_run
end
theorem typ_new : typeOf (.builtin "str.__new__") = pure (.type "builtin_function_or_method") := by show builtinType _ = _; rw [builtinType_eq_fast]; kernel_rfl
theorem bf_noGet : typeLookup (.type "builtin_function_or_method") (Str.ofString "__get__") = pure none := by rw [typeLookup_type, builtinLookup_eq_fast]; kernel_rfl
theorem cl_opaque {M : Model} {P : Params} {h : Heap} (X : (KK P).In h) : Looks M h (opaqueClassAbove (.ref 443)) none := Looks.of_peek X (by kernel_rfl)
theorem along_new (P : Params) : alongIn (KK P) (Str.ofString "__new__") [.type "str", .type "object"] = some (some (.builtin "str.__new__")) := by kernel_rfl
theorem own_new (P : Params) : ownIn (KK P) (Str.ofString "__new__") (.type "str") = some (some (.builtin "str.__new__")) := by kernel_rfl
theorem new_handed : handedOut (.builtin "str.__new__") = pure (.builtin "str.__new__") := handedOut_of (by decide +kernel)
section
variable {prog : Program} {w : World} {M : Model} {A : Around} {E : Value → Shared → Prop} {h : Heap} {g : Array GenState} {d : Drawn} {t : Nat} {os : OsState} {so : Addr} {P : Params}
set_option maxHeartbeats 400000 in
theorem super_ga {tk : Tok} {Q : Fin → Shared → Prop} (X : (KK P).In h) (hso : h.get? so = some (ks_superObj 443 443 443))
    (hq : Q (.done (.ret (.builtin "str.__new__"))) ⟨h, g, d, t, os⟩) :
    wpAny (model prog w) A (Builtin.«super.__getattribute__» ⟨[.ref so, .str (Str.ofString "__new__") tk], []⟩) Q E ⟨h, g, d, t, os⟩ := by
  have hdt : (ks_superObj 443 443 443).data = .fields #[.ref 443, .ref 443, .ref 443] := rfl
  have f0 : (#[.ref 443, .ref 443, .ref 443] : Array Value)[0]? = some (.ref 443) := rfl
  have f1 : (#[.ref 443, .ref 443, .ref 443] : Array Value)[1]? = some (.ref 443) := rfl
  have f2 : (#[.ref 443, .ref 443, .ref 443] : Array Value)[2]? = some (.ref 443) := rfl
  have hC := cl_mroOf (M := model prog w) X
  have hno := cl_opaque (M := model prog w) X
  have hn : (Str.ofString "__new__" == ("__class__" : Str)) = false := by decide +kernel
  show wpAny _ _ (field (.ref so) 0 >>= _) _ _ _
  refine wpAny_bind (wpAny_field hso hdt f0 ?_)
  show wpAny _ _ (field (.ref so) 1 >>= _) _ _ _
  refine wpAny_bind (wpAny_field hso hdt f1 ?_)
  show wpAny _ _ (field (.ref so) 2 >>= _) _ _ _
  refine wpAny_bind (wpAny_field hso hdt f2 ?_)
  show wpAny _ _ (if ((Value.ref 443 == Value.none) || (Str.ofString "__new__" == Str.ofString "__class__")) = true then _ else _) _ _ _
  rw [if_neg (by rw [hn]; decide)]
  refine wpAny_bind (ks_wpAny_notOpaque hno ?_)
  have hl : (([.ref 443, .type "str", .type "object"] : List Value).dropWhile (fun x => x != .ref 443)).drop 1 = [.type "str", .type "object"] := by decide +kernel
  dsimp only
  rw [if_neg (by decide)]
  refine wpAny_bind (hC.at ?_)
  rw [hl]
  rw [List.forIn_cons]
  have ho := looks_ownIn (M := model prog w) X (own_new P)
  refine wpAny_bind (wpAny_bind (wpAny_bind (ho.at ?_)))
  dsimp only
  refine wpAny_bind (wpAny_of_eq typ_new ?_)
  refine wpAny_bind (wpAny_of_eq bf_noGet ?_)
  dsimp only
  refine wpAny_bind (wpAny_of_eq new_handed ?_)
  exact wpAny_bind (wpAny_pure (wpAny_pure (wpAny_pure (wpAny_pure hq))))
theorem super_method {pl : Sem Bool} {Q : Value × List Value → Shared → Prop} (X : (KK P).In h) (hso : h.get? so = some (ks_superObj 443 443 443))
    (hq : Q (.builtin "str.__new__", []) ⟨h, g, d, t + 1, os⟩) :
    wpAny (model prog w) A (getMethod (.ref so) (Str.ofString "__new__") pl) Q E ⟨h, g, d, t, os⟩ := by
  have hlk := PySem.F.ks_slot_super_ga.lookup
  have hcan := PySem.F.ks_canon_super_ga
  have hT : ∀ t', (⟨h, g, d, t', os⟩ : Shared).TypeIs (.ref so) "super" := fun _ => ⟨_, hso, rfl⟩
  unfold getMethod
  refine wpAny_bind (wpAny_specialOf (hT _) hlk ?_)
  show wpAny _ _ (if (Manifest.canonical "super.__getattribute__" != "object.__getattribute__") = true then _ else _) _ _ _
  rw [if_pos hcan]
  unfold getAttr getAttrBy
  refine wpAny_bind (wpAny_bind (wpAny_mkText (wpAny_holding (wpAny_bind (wpAny_typeOf (hT _) (wpAny_bind (wpAny_of_eq hlk ?_)))))))
  show wpAny _ _ (getAttrByItsOwn (.ref so) (.str (Str.ofString "__new__") t) (.type "super") (.builtin "super.__getattribute__") true false) _ _ _
  unfold getAttrByItsOwn hookBefore callGetattribute boundAndCalled
  refine wpAny_bind (wpAny_of_eq (show (if onTheHeap (.type "super") then typeLookup (.type "super") "__getattr__" else pure none) = pure none from rfl) ?_)
  refine wpAny_bind (wpAny_attempt (wpAny_holding ?_))
  show wpAny _ _ (bindSpecial (.builtin "super.__getattribute__") (.ref so) >>= _) _ _ _
  refine wpAny_bind (wpAny_of_eq (PySem.F.ks_slot_super_ga.bind _) ?_)
  refine wpAny_mono (Q := fun v s' => v = .builtin "str.__new__" ∧ s' = ⟨h, g, d, t + 1, os⟩) (E := fun _ _ => False)
    (wpAny_call_entry PySem.F.ks_slot_super_ga (hT _) PySem.F.ks_entry_super_ga (super_ga X hso ⟨_, rfl, rfl, rfl⟩) (PySem.F.ks_gaArgs_super _ _)) (fun v s' hv => ?_) fun _ _ z => z.elim
  obtain ⟨rfl, rfl⟩ := hv
  exact wpAny_pure (wpAny_pure hq)
end
end
section
theorem fresh_Mt : True := by w_top off; trivial
open PySem.Builtin PySem.Builtin.ObjectAttr
theorem cl_setattr (P : Params) : findIn (KK P) (.ref 443) (Str.ofString "__setattr__") = some (some (.builtin "object.__setattr__")) := by kernel_rfl
theorem cl_strict (P : Params) : findIn (KK P) (.ref 443) (Str.ofString "strict") = some (some (.ref 445)) := by kernel_rfl
theorem cl_takes (P : Params) : takesIn (KK P) (.ref 445) = some true := by kernel_rfl
theorem cl_mem (P : Params) : typeIn (KK P) (.ref 445) = some (.type "member_descriptor") := by kernel_rfl
theorem cl_slot (P : Params) : slotIn (KK P) 445 443 = some 0 := by kernel_rfl
theorem cl_refuse (self : Value) : refuseLoop self (Str.ofString "__setattr__") [.ref 443, .type "str", .type "object"] = pure () := by
  rw [refuseLoop_ref]
  kernel_rfl
section
variable {prog : Program} {w : World} {A : Around} {E : Value → Shared → Prop} {s : Shared} {h₀ : Heap} {L c dx : Addr} {m : Str → Option Value} {rest : List (Addr × Obj)} {x : Str} {t : Tok} {v : Value}
theorem cl_set {P : Params} {Q : Unit → Shared → Prop} (F : Fr h₀ L s.heap m) (X₀ : (KK P).In h₀) (N : News h₀ L s.heap ((c, clO x t dx #[]) :: (dx, emptyDict) :: rest)) (hne : ∀ p ∈ (dx, emptyDict) :: rest, p.1 ≠ c)
    (h : ∀ h', Fr h₀ L h' m → News h₀ L h' ((c, clO x t dx #[some v]) :: (dx, emptyDict) :: rest) → Q () { s with heap := h', toks := s.toks + 1 }) : wpAny (model prog w) A (setAttr (.ref c) (Str.ofString "strict") v) Q E s := by
  have X := X₀.keeps F.keep
  have I : InstAt s.heap c (clO x t dx #[]) 443 (some emptyDict) := ⟨(N _ (.head _)).1, rfl, rfl, (N _ (.tail _ (.head _))).1⟩
  have SF := PySem.F.store_object
  refine set_plain X I (cl_setattr P) ?_
  refine codeAny_call_builtin SF.slot.plain SF.entry (@check_slot (model prog w) _ _ { s with toks := s.toks + 1 } "object.__setattr__" "object" "__setattr__" (.ref c) [.str (Str.ofString "strict") s.toks, v] [] _ SF.kind SF.split (inst_looks X I (cl_mro_obj P)) (SF.args (.ref c) (.str (Str.ofString "strict") s.toks) v) ?_)
  have L1 := I.type (M := model prog w)
  have L2 := cl_mroOf (M := model prog w) X
  have L3 := looks_findIn (M := model prog w) X (cl_strict P)
  have L4 : Looks (model prog w) s.heap (storeTaker? (some (.ref 445))) (some (.ref 445)) := (looks_takesIn X (cl_takes P)).andThen .now
  have S := KF.slot_mset
  rw [osa_eq, refuse_eq]
  refine wpAny_bind (wpAny_bind (L1.at (wpAny_bind (L2.at ?_))))
  rw [cl_refuse]
  refine wpAny_pure (wpAny_bind (L1.at (wpAny_bind (L3.at (wpAny_bind (L4.at ?_))))))
  show wpAny _ _ (setByDescriptor (.ref 445) (.ref c) v) _ _ _
  refine wpAny_bind (wpAny_rule (wpAny_bind (wpAny_holding (wpAny_bind (wpAny_bind ((looks_typeIn X (cl_mem P)).at ((Looks.of_pure S.lookup).at (wpAny_holding ?_))))))))
  rw [S.bind]
  refine wpAny_bind (wpAny_pure (wpAny_bind (wpAny_call ?_)))
  refine codeAny_mono (R := fun r s' => r = .ok (.ret .none) ∧ Q () s') (slot_set (pre := []) (i := 0) (ox' := clO x t dx #[some v]) (s := { s with toks := s.toks + 1 }) F N X I (cl_slot P) (by decide) (fun _ h => (nomatch h)) hne rfl rfl fun h' F' N' => ⟨rfl, h h' F' N'⟩) fun r s' z => ?_
  obtain ⟨rfl, z⟩ := z
  exact wpAny_pure (wpAny_pure z)
end
end
section
theorem fresh_T5 : True := by w_top off; trivial
local macro_rules | `(tactic| walk_at "pad row") => `(tactic| fail)
local macro_rules | `(tactic| walk_at "getMethod bytes") => `(tactic| (with_reducible refine KBd.method ?_))
set_option maxHeartbeats 8000000 in
theorem uni_kw {w : World} {mean : ExcName → Option Value} {mg mb : Str → Option Value} {h₀ : Heap} {s : Shared} {A : Around} {Q E : Value → Shared → Prop}
  {x : Str} {t : Tok} {e : Value}
  (S : Sits w mean mg mb h₀ s.heap) (hd : A.depth + 1 < recursionLimit) (hu : A.units + 8 < cLine)
  (hret : ∀ h' tk', Grew [] s.heap h' → Q (.str x t) { s with heap := h', toks := tk' }) :
  wpAny (model PySem.Challenge.pw_be0022_01 w) A (call (.ref 47) [.str x t] [(Str.ofString "encoding", e)]) Q E s := by
  (have Dz := dum; revert Dz; k_fill; intro Dz; clear Dz)
  refine wpAny_call ?_
  (k_dflt (refine' enter _ ?k1 ?kb ?k6 ?k7 ?k8 ?k9 ?kl ?_ ?c2 ?c3 ?c4 ?c5; (case k1 => k_asm); (case kb => first | assumption | exact List.forall_mem_nil _); (case k6 => k_is); (case k7 => k_is); (case k8 => omega); (case k9 => first | exact BindsTo.of_eq rfl | (refine' binds_K (K := Mine.hd.heap_1 _) (Frag.In.keeps (Sits.X (by assumption)) (Sits.keep (by assumption))) rfl ?kd ?kr1 ?kr2 ?kr3; (case kd => k_is); (case kr1 => exact rfl); (case kr2 => exact rfl); (case kr3 => exact rfl))); (case c2 => decide); (case kl => exact locs rfl); (case c3 => exact rfl); (case c4 => exact rfl); (case c5 => exact rfl); k_whole); intro _ _ _ _ _ _ _ _; (try dsimp only); (try k_fold))
  (repeat' (first | (k_unfold; (try dsimp only)) | ((fail_if_success with_reducible (first | refine st0 ?_ | refine st1 ?_ | refine st2 ?_ | refine st3 ?_ | refine st4 ?_ | refine st5 ?_ | refine st6 ?_ | refine st7 ?_ | refine st8 ?_)); walk1) | (dsimp only; (fail_if_success with_reducible (first | refine st0 ?_ | refine st1 ?_ | refine st2 ?_ | refine st3 ?_ | refine st4 ?_ | refine st5 ?_ | refine st6 ?_ | refine st7 ?_ | refine st8 ?_)); walk1) | (leave1; (try dsimp only)) | dsimp only | fail "no step"))
  rename Fr _ _ _ _ => F9
  try k_unfold
  try dsimp only
  refine hret _ _ (by (with_reducible rename Under _ _ _ _ => U9); exact U9.grew F9)
set_option maxHeartbeats 8000000 in
theorem uni_str {w : World} {mean : ExcName → Option Value} {mg mb : Str → Option Value} {h₀ : Heap} {s : Shared} {A : Around} {Q E : Value → Shared → Prop}
  {x : Str} {t : Tok}
  (S : Sits w mean mg mb h₀ s.heap) (hd : A.depth + 1 < recursionLimit) (hu : A.units + 8 < cLine)
  (hret : ∀ h' tk', Grew [] s.heap h' → Q (.str x t) { s with heap := h', toks := tk' }) :
  wpAny (model PySem.Challenge.pw_be0022_01 w) A (call (.ref 47) [.str x t]) Q E s := by
  (have Dz := dum; revert Dz; k_fill; intro Dz; clear Dz)
  refine wpAny_call ?_
  (k_dflt (refine' enter _ ?k1 ?kb ?k6 ?k7 ?k8 ?k9 ?kl ?_ ?c2 ?c3 ?c4 ?c5; (case k1 => k_asm); (case kb => first | assumption | exact List.forall_mem_nil _); (case k6 => k_is); (case k7 => k_is); (case k8 => omega); (case k9 => first | exact BindsTo.of_eq rfl | (refine' binds_K (K := Mine.hd.heap_1 _) (Frag.In.keeps (Sits.X (by assumption)) (Sits.keep (by assumption))) rfl ?kd ?kr1 ?kr2 ?kr3; (case kd => k_is); (case kr1 => exact rfl); (case kr2 => exact rfl); (case kr3 => exact rfl))); (case c2 => decide); (case kl => exact locs rfl); (case c3 => exact rfl); (case c4 => exact rfl); (case c5 => exact rfl); k_whole); intro _ _ _ _ _ _ _ _; (try dsimp only); (try k_fold))
  (repeat' (first | (k_unfold; (try dsimp only)) | ((fail_if_success with_reducible (first | refine st0 ?_ | refine st1 ?_ | refine st2 ?_ | refine st3 ?_ | refine st4 ?_ | refine st5 ?_ | refine st6 ?_ | refine st7 ?_ | refine st8 ?_)); walk1) | (dsimp only; (fail_if_success with_reducible (first | refine st0 ?_ | refine st1 ?_ | refine st2 ?_ | refine st3 ?_ | refine st4 ?_ | refine st5 ?_ | refine st6 ?_ | refine st7 ?_ | refine st8 ?_)); walk1) | (leave1; (try dsimp only)) | dsimp only | fail "no step"))
  rename Fr _ _ _ _ => F9
  try k_unfold
  try dsimp only
  refine hret _ _ (by (with_reducible rename Under _ _ _ _ => U9); exact U9.grew F9)
set_option maxHeartbeats 8000000 in
theorem uni_bytes {w : World} {mean : ExcName → Option Value} {mg mb : Str → Option Value} {h₀ : Heap} {s : Shared} {A : Around} {Q E : Value → Shared → Prop}
  {l : List Nat} {c : UInt8} {cs : List UInt8} {t : Tok}
  (S : Sits w mean mg mb h₀ s.heap) (he : enc l = c :: cs) (hs : ∀ c ∈ l, Sign c) (hl : l.length ≤ 1000000) (hd : A.depth + 1 < recursionLimit) (hu : A.units + 8 < cLine)
  (hret : ∀ h' tk' t', Grew [] s.heap h' → Q (.str (txt l) t') { s with heap := h', toks := tk' }) :
  wpAny (model PySem.Challenge.pw_be0022_01 w) A (call (.ref 47) [.bytes (enc l).toArray t]) Q E s := by
  (have Dz := dum; revert Dz; k_fill; intro Dz; clear Dz)
  refine wpAny_call ?_
  (k_dflt (refine' enter _ ?k1 ?kb ?k6 ?k7 ?k8 ?k9 ?kl ?_ ?c2 ?c3 ?c4 ?c5; (case k1 => k_asm); (case kb => first | assumption | exact List.forall_mem_nil _); (case k6 => k_is); (case k7 => k_is); (case k8 => omega); (case k9 => first | exact BindsTo.of_eq rfl | (refine' binds_K (K := Mine.hd.heap_1 _) (Frag.In.keeps (Sits.X (by assumption)) (Sits.keep (by assumption))) rfl ?kd ?kr1 ?kr2 ?kr3; (case kd => k_is); (case kr1 => exact rfl); (case kr2 => exact rfl); (case kr3 => exact rfl))); (case c2 => decide); (case kl => exact locs rfl); (case c3 => exact rfl); (case c4 => exact rfl); (case c5 => exact rfl); k_whole); intro _ _ _ _ _ _ _ _; (try dsimp only); (try k_fold))
  (repeat' (first | (k_unfold; (try dsimp only)) | ((fail_if_success with_reducible (first | refine st0 ?_ | refine st1 ?_ | refine st2 ?_ | refine st3 ?_ | refine st4 ?_ | refine st5 ?_ | refine st6 ?_ | refine st7 ?_ | refine st8 ?_)); walk1) | (dsimp only; (fail_if_success with_reducible (first | refine st0 ?_ | refine st1 ?_ | refine st2 ?_ | refine st3 ?_ | refine st4 ?_ | refine st5 ?_ | refine st6 ?_ | refine st7 ?_ | refine st8 ?_)); walk1) | (leave1; (try dsimp only)) | dsimp only | fail "no step"))
  rename Fr _ _ _ _ => F9
  refine decode2 he hs hl ?_
  intro t9 k9
  try k_unfold
  try dsimp only
  refine hret _ _ _ (by (with_reducible rename Under _ _ _ _ => U9); exact U9.grew F9)
end
section
theorem fresh_T6 : True := by w_top off; trivial
section
variable {w : World} {mean : ExcName → Option Value} {mg mb : Str → Option Value} {h₀ : Heap} {s : Shared} {A : Around}
  {R : Result → Shared → Prop} {name qual : Str} {params : Arguments} {body : List Stmt} {scope : Scope} {dV kV doc pm cdv ct oc : Value} {an od : Option Addr} {osl : Array (Option Value)} {f cc : Addr} {args : Args} {binds : List (Str × Value)}
/-- entering a def that closes over its class -/
theorem enterAt (bs : List (Addr × Obj)) (S : Sits w mean mg mb h₀ s.heap) (hb : ∀ p ∈ bs, s.heap.get? p.1 = some p.2 ∧ h₀.get? p.1 = none)
    (ho : (Mine.hd.heap_1 w.params).lookup f = some ⟨oc, od, .func (ksFn name qual params body scope dV kV doc pm an cdv ct cc), osl⟩) (hcd : codeIn (Mine.hd.heap_1 w.params) cdv qual = true) (hroom : A.depth < recursionLimit)
    (hbind : BindsTo s (ksFn name qual params body scope dV kV doc pm an cdv ct cc) args binds) (hloc : ∀ y ∈ binds, scope.names.lookup y.1 = some .local)
    (h : ∀ g L' h₁, Fr g L' h₁ (fun y => binds.reverse.lookup y) → News g L' h₁ bs → (Mine.hd.heap_1 w.params).In g → Top topProg LLoose mean mg mb g → Under bs s g L' →
      _root_.PySem.wpAt (model PySem.Challenge.pw_be0022_01 w) (A.deeper (ksEnv qual scope L' f cdv cc)) (.func body (ksEnv qual scope L' f cdv cc)) (execs body (ksEnv qual scope L' f cdv cc))
        (fun fl s' => R (.ok (.ret (match fl with | .ret v => v | _ => .none))) s') (fun _ _ => False) { s with heap := h₁, toks := s.toks + binds.length })
    (hcell : ∀ x ∈ scope.names, x.2 ≠ .cell) (hco : scope.isCoroutine = false) (hgen : scope.isGenerator = false) (hk : scope.kind = .function) :
    codeAny (model PySem.Challenge.pw_be0022_01 w) A (.call (.ref f) args) R s := by
  have st : h₀.StaysIn (hideAll s.heap (adr bs)) := fun b o e => hideAll_get _ (S.keep b o e) (fun q => by
    obtain ⟨p, hp, rfl⟩ := List.mem_map.mp q
    rw [(hb p hp).2] at e; cases e)
  have lim : s.heap.NoLimit := S.T.nolimit.keeps S.keep
  refine ks_codeAny_call_defAt (fd := ksFn name qual params body scope dV kV doc pm an cdv ct cc) (body := body) (binds := binds) hroom (S.keep _ _ (S.X _ _ ho)) rfl lim (codeRec_of (S.X.keeps S.keep) hcd) rfl hbind hcell hloc (fun h₁ hns hk₁ => ?_) hco hgen hk
  refine ks_wpAt_mono (h (hideAll s.heap (adr bs)) s.heap.objs.size h₁ ⟨hns, fun b o e => hk₁ b o (of_hideAll _ e), Nat.le_of_eq (hideAll_size _ _)⟩
    (fun p hp => ⟨hk₁ _ _ (hb p hp).1, Nat.ne_of_lt (Heap.lt_size (hb p hp).1), hideAll_none _ (List.mem_map_of_mem hp)⟩) (S.X.keeps st) (S.T.keeps st)
    ⟨fun c o h1 h2 => hideAll_get _ h2 h1, fun c o e => of_hideAll _ e, rfl, fun p hp => Heap.lt_size (hb p hp).1⟩) (fun _ _ x => x) fun _ _ x => x.elim
end
theorem fr_up {h₀ h h' : Heap} {L : Addr} {m : Str → Option Value} (F : Fr h₀ L h m) (k : ∀ b o, h.get? b = some o → h'.get? b = some o) : Fr h₀ L h' m := ⟨F.ns.keeps k, fun b o e => k b o (F.keep b o e), F.above⟩
theorem news_up {h₀ h h' : Heap} {L : Addr} {news : List (Addr × Obj)} (N : News h₀ L h news) (k : ∀ b o, h.get? b = some o → h'.get? b = some o) : News h₀ L h' news := fun p hp => ⟨k _ _ (N p hp).1, (N p hp).2⟩
/-- a Contentline that came since -/
noncomputable def NewCl (h h' : Heap) (c : Addr) (x : Str) : Prop := ∃ t dx sl, h'.get? c = some (clO x t dx sl) ∧ h'.get? dx = some emptyDict ∧ h.objs.size ≤ c ∧ h.objs.size ≤ dx
set_option maxHeartbeats 8000000 in
theorem new_spec {w : World} {mean : ExcName → Option Value} {mg mb : Str → Option Value} {h₀ : Heap} {s : Shared} {A : Around} {Q E : Value → Shared → Prop}
  {x : List Nat} {t : Tok}
  (S : Sits w mean mg mb h₀ s.heap) (hx : x.length ≤ 100000) (hnl : 10 ∉ x) (hd : A.depth + 2 < recursionLimit) (hu : A.units + 18 < cLine) (hA : A.handled = none)
  (hret : ∀ c h' tk', ClAt h' c (txt x) → s.heap.get? c = none → Grew [] s.heap h' → NewCl s.heap h' c (txt x) → Q (.ref c) { s with heap := h', toks := tk' }) :
  wpAny (model PySem.Challenge.pw_be0022_01 w) A (call (.ref 389) [.ref 443, .str (txt x) t]) Q E s := by
  have hocc : (!!(Builtin.Str.occurrences (txt x) (Str.ofString "\n") 0 (txt x).length 1).isEmpty) = true := by
    have := StrLaws.found_one (txt x) 10
    rw [ofs_nl]
    rw [show (txt [10] : Str) = ⟨#[10]⟩ from rfl, this]
    simp [txt, hnl]
  have hlen : (txt x).length = x.length := str_len_txt x
  (have Dz := dum; revert Dz; k_fill; intro Dz; clear Dz)
  refine wpAny_call ?_
  (k_dflt (refine' enterAt _ ?k1 ?kb ?k6 ?k7 ?k8 ?k9 ?kl ?_ ?c2 ?c3 ?c4 ?c5; (case k1 => k_asm); (case kb => first | assumption | exact List.forall_mem_nil _); (case k6 => k_is); (case k7 => k_is); (case k8 => omega); (case k9 => refine' binds_K (K := Mine.hd.heap_1 _) (Frag.In.keeps (Sits.X (by assumption)) (Sits.keep (by assumption))) rfl ?kd ?kr1 ?kr2 ?kr3; (case kd => k_is); (case kr1 => exact rfl); (case kr2 => exact rfl); (case kr3 => exact rfl)); (case c2 => decide); (case kl => exact locs rfl); (case c3 => exact rfl); (case c4 => exact rfl); (case c5 => exact rfl); k_whole); intro g' L' h' F' N' X' T' U'; (try dsimp only); (try k_fold))
  refine ks_wpAt_execs_cons (wpAt_of_wpAny ?_)
  (repeat' (first | (k_unfold; (try dsimp only)) | ((fail_if_success with_reducible (first | refine st0 ?_ | refine st1 ?_ | refine st2 ?_ | refine st3 ?_ | refine st4 ?_ | refine st5 ?_ | refine st6 ?_ | refine st7 ?_ | refine st8 ?_)); walk1) | (dsimp only; (fail_if_success with_reducible (first | refine st0 ?_ | refine st1 ?_ | refine st2 ?_ | refine st3 ?_ | refine st4 ?_ | refine st5 ?_ | refine st6 ?_ | refine st7 ?_ | refine st8 ?_)); walk1) | (leave1; (try dsimp only)) | dsimp only | fail "no step"))
  rename Fr _ _ _ _ => F1
  rename Frag.In _ _ => X1
  rename Top _ _ _ _ _ _ => T1
  rename News _ _ _ _ => N1
  show wpAny _ _ (call (.ref 47) [.str (txt x) t] [(Str.ofString "encoding", _)]) _ _ _
  refine uni_kw (sits_of F1 X1 T1) ?_ ?_ ?_
  · show A.depth + 1 + 1 < _; omega
  · show A.units + 3 + 8 < _; omega
  intro h2 tk2 G2
  replace F1 := fr_nil F1 G2
  replace N1 := news_nil N1 G2
  clear G2
  (repeat' (first | (k_unfold; (try dsimp only)) | ((fail_if_success with_reducible (first | refine st0 ?_ | refine st1 ?_ | refine st2 ?_ | refine st3 ?_ | refine st4 ?_ | refine st5 ?_ | refine st6 ?_ | refine st7 ?_ | refine st8 ?_)); walk1) | (dsimp only; (fail_if_success with_reducible (first | refine st0 ?_ | refine st1 ?_ | refine st2 ?_ | refine st3 ?_ | refine st4 ?_ | refine st5 ?_ | refine st6 ?_ | refine st7 ?_ | refine st8 ?_)); walk1) | (leave1; (try dsimp only)) | dsimp only | fail "no step"))
  refine ks_wpAt_execs_cons (wpAt_of_wpAny ?_)
  (repeat' (first | (k_unfold; (try dsimp only)) | ((fail_if_success with_reducible (first | refine st0 ?_ | refine st1 ?_ | refine st2 ?_ | refine st3 ?_ | refine st4 ?_ | refine st5 ?_ | refine st6 ?_ | refine st7 ?_ | refine st8 ?_)); walk1) | (dsimp only; (fail_if_success with_reducible (first | refine st0 ?_ | refine st1 ?_ | refine st2 ?_ | refine st3 ?_ | refine st4 ?_ | refine st5 ?_ | refine st6 ?_ | refine st7 ?_ | refine st8 ?_)); walk1) | (leave1; (try dsimp only)) | dsimp only | fail "no step"))
  refine ks_wpAt_execs_cons (ks_wpAt_Assign_Name (ks_wpAt_MethodCall ?_))
  rename Fr _ _ _ _ => F1
  rename News _ _ _ _ => N1
  have XH := X1.keeps F1.keep
  refine' ks_wpAt_super_base (f := 389) (cc := 388) rfl rfl ?hat rfl ?hf ?hfd ?hp rfl ?hcc ?hoc ?hvs ?hfile ?htop ?h
  case hf => exact XH _ _ (by k_is)
  case hcc => exact XH _ _ (by k_is)
  case hat => decide +kernel
  case hfd => rfl
  case hp => rfl
  case hoc => rfl
  case hvs => rfl
  case hfile => first | rfl | decide +kernel
  case htop => first | rfl | decide +kernel
  case h =>
    refine ks_loadName_global rfl rfl (loadGlobal_builtin (T1.g.keeps F1.keep) (mg_none_of X1 T1.g (by k_is)) (T1.b.keeps F1.keep) ((T1.builtins _ (by decide +kernel)).trans (by first | boot_by_name | rfl | kernel_rfl)) ⟨rfl, ?_⟩)
    refine wpAny_loadName_free rfl rfl rfl ⟨_, XH _ _ (by k_is), rfl⟩ ?_
    refine wpAny_loadName_local rfl rfl F1.ns rfl ?_
    refine (cl_isT XH).here ⟨rfl, ?_⟩
    refine super_cl0 XH ?_
    intro so h3 D3
    have k3 := mem_keep D3
    obtain ⟨so1, so2⟩ := mem_new D3
    have N3 := news_new F1 so2 so1 (news_up N1 k3)
    have F3 := fr_up F1 k3
    clear F1 N1
    refine super_method (XH.keeps k3) so1 ?_
    clear k3 D3
    (repeat' (first | (k_unfold; (try dsimp only)) | ((fail_if_success with_reducible (first | refine st0 ?_ | refine st1 ?_ | refine st2 ?_ | refine st3 ?_ | refine st4 ?_ | refine st5 ?_ | refine st6 ?_ | refine st7 ?_ | refine st8 ?_)); walk1) | (dsimp only; (fail_if_success with_reducible (first | refine st0 ?_ | refine st1 ?_ | refine st2 ?_ | refine st3 ?_ | refine st4 ?_ | refine st5 ?_ | refine st6 ?_ | refine st7 ?_ | refine st8 ?_)); walk1) | (leave1; (try dsimp only)) | dsimp only | fail "no step"))
    rename Fr _ _ _ _ => F5
    rename News _ _ _ _ => N5
    refine str_new (X1.keeps F5.keep) (by rw [hlen]; omega) ?_
    intro c dx h6 tk6 t6 k6 hc hdx e1 e2 e3
    have hdx0 : ∀ b, dx ≤ b → Heap.get? _ b = none := fun b hb => Heap.get?_none_of_le (e1 ▸ hb)
    have N6 := news_new F5 (hdx0 dx (Nat.le_refl _)) hdx (news_up N5 k6)
    have N7 := news_new F5 (hdx0 c (e2 ▸ Nat.le_succ dx)) hc N6
    have F7 := fr_up F5 k6
    have l1 : @LT.lt Nat _ so dx := e1 ▸ Heap.lt_size (N5 _ (.head _)).1
    have l2 : @LT.lt Nat _ dx c := e2 ▸ Nat.lt_succ_self dx
    have l0 := F5.ns.lt
    rw [e1] at l0
    clear F5 N5 N6
    (repeat' (first | (k_unfold; (try dsimp only)) | ((fail_if_success with_reducible (first | refine st0 ?_ | refine st1 ?_ | refine st2 ?_ | refine st3 ?_ | refine st4 ?_ | refine st5 ?_ | refine st6 ?_ | refine st7 ?_ | refine st8 ?_)); walk1) | (dsimp only; (fail_if_success with_reducible (first | refine st0 ?_ | refine st1 ?_ | refine st2 ?_ | refine st3 ?_ | refine st4 ?_ | refine st5 ?_ | refine st6 ?_ | refine st7 ?_ | refine st8 ?_)); walk1) | (leave1; (try dsimp only)) | dsimp only | fail "no step"))
    refine ks_wpAt_execs_cons (wpAt_of_wpAny ?_)
    (repeat' (first | (k_unfold; (try dsimp only)) | ((fail_if_success with_reducible (first | refine st0 ?_ | refine st1 ?_ | refine st2 ?_ | refine st3 ?_ | refine st4 ?_ | refine st5 ?_ | refine st6 ?_ | refine st7 ?_ | refine st8 ?_)); walk1) | (dsimp only; (fail_if_success with_reducible (first | refine st0 ?_ | refine st1 ?_ | refine st2 ?_ | refine st3 ?_ | refine st4 ?_ | refine st5 ?_ | refine st6 ?_ | refine st7 ?_ | refine st8 ?_)); walk1) | (leave1; (try dsimp only)) | dsimp only | fail "no step"))
    rename Fr _ _ _ _ => F8
    rename News _ _ _ _ => N8
    refine cl_set F8 X1 N8 ?upd ?_
    case upd =>
      intro p hp
      rcases List.mem_cons.mp hp with rfl | hp
      · exact Nat.ne_of_lt l2
      · rw [List.mem_singleton.mp hp]; exact Nat.ne_of_lt (Nat.lt_trans l1 l2)
    clear F8 N8
    intro h9 F9 N9
    refine ks_wpAt_execs_cons (wpAt_of_wpAny ?_)
    (repeat' (first | (k_unfold; (try dsimp only)) | ((fail_if_success with_reducible (first | refine st0 ?_ | refine st1 ?_ | refine st2 ?_ | refine st3 ?_ | refine st4 ?_ | refine st5 ?_ | refine st6 ?_ | refine st7 ?_ | refine st8 ?_)); walk1) | (dsimp only; (fail_if_success with_reducible (first | refine st0 ?_ | refine st1 ?_ | refine st2 ?_ | refine st3 ?_ | refine st4 ?_ | refine st5 ?_ | refine st6 ?_ | refine st7 ?_ | refine st8 ?_)); walk1) | (leave1; (try dsimp only)) | dsimp only | fail "no step"))
    rename Fr _ _ _ _ => F10
    rename News _ _ _ _ => N10
    try k_unfold
    try dsimp only
    (with_reducible rename Under _ _ _ _ => U9)
    refine hret c _ _ ⟨_, _, _, (N10 _ (.head _)).1, (N10 _ (.tail _ (.head _))).1⟩ (U9.none (fun h => (nomatch h)) (N10.fresh (.head _))) (U9.grew F10) ⟨_, _, _, (N10 _ (.head _)).1, (N10 _ (.tail _ (.head _))).1, by rw [U9.size]; exact Nat.le_of_lt (Nat.lt_trans l0 l2), by rw [U9.size]; exact Nat.le_of_lt l0⟩
end
section
theorem fresh_T7 : True := by w_top off; trivial
theorem tc_weight (v : Value) : (Code.builtin "type.__call__" ⟨[.ref 443, v], []⟩).weight = 1 := by kernel_rfl
theorem tc_units (v : Value) : (Code.builtin "type.__call__" ⟨[.ref 443, v], []⟩).cUnits = 1 := by kernel_rfl
theorem cl_make {w : World} {mean : ExcName → Option Value} {mg mb : Str → Option Value} {h₀ : Heap} {s : Shared} {A : Around} {Q E : Value → Shared → Prop}
  {x : List Nat} {t : Tok}
  (S : Sits w mean mg mb h₀ s.heap) (hx : x.length ≤ 100000) (hnl : 10 ∉ x) (hd : A.depth + 3 < recursionLimit) (hu : A.units + 20 < cLine) (hA : A.handled = none)
  (hret : ∀ c h' tk', ClAt h' c (txt x) → s.heap.get? c = none → Grew [] s.heap h' → NewCl s.heap h' c (txt x) → Q (.ref c) { s with heap := h', toks := tk' }) :
  wpAny (model PySem.Challenge.pw_be0022_01 w) A (call (.ref 443) [.str (txt x) t]) Q E s := by
  refine wpAny_call (make_cl (P := w.params) (S.X.keeps S.keep) ?_)
  refine new_spec (s := { s with toks := s.toks + 1 }) S hx hnl (show A.depth + _ + 2 < _ by rw [tc_weight]; omega) (show A.units + _ + 18 < _ by rw [tc_units]; omega) hA ?_
  intro c h' tk' hc hc0 G hnew
  exact ⟨c, txt x, rfl, hc, (S.nil G).X.keeps (S.nil G).keep, hret c h' tk' hc hc0 G hnew⟩
end
section
theorem fresh_T8 : True := by w_top off; trivial
local macro_rules | `(tactic| walk_at "getMethod str") => `(tactic| (with_reducible refine enc_method ?_))
theorem fold_signs {x : List Nat} (h : ∀ c ∈ x, Sign c) : ∀ c ∈ fold x, Sign c := by
  have key : ∀ ls : List (List Nat), (∀ c ∈ ls.flatten, Sign c) → ∀ c ∈ jn [13, 10, 32] ls, Sign c
    := by
    intro ls
    induction ls with
    | nil => intro _ c hc; cases hc
    | cons a r ih =>
      intro h c hc
      cases r with
      | nil => exact h c (by rw [jn] at hc; simpa using hc)
      | cons b q =>
        rw [jn] at hc
        rcases List.mem_append.mp hc with hc | hc
        · rcases List.mem_append.mp hc with hc | hc
          · exact h c (by simp [hc])
          · simp only [List.mem_cons, List.not_mem_nil, or_false] at hc
            exact .inl (by omega)
        · exact ih (fun c hc => h c (by rw [List.flatten_cons]; exact List.mem_append.mpr (.inr hc))) c hc
  refine key _ ?_
  rw [fsGo_flat]
  simpa using h
theorem jn_len : ∀ ls : List (List Nat), (jn [13, 10, 32] ls).length ≤ ls.flatten.length + 3 * ls.length
  | [] => by simp [jn]
  | [a] => by simp [jn]
  | a :: b :: r => by
    have := jn_len (b :: r)
    rw [jn]
    simp only [List.length_append, List.flatten_cons, List.length_cons, List.length_nil] at this ⊢
    omega
theorem fsGo_count : ∀ (x cur : List Nat) (n : Nat), (fsGo x cur n).length ≤ x.length + 1
  | [], cur, n => by unfold fsGo; split <;> simp
  | c :: r, cur, n => by
    unfold fsGo
    split
    · split
      · have := fsGo_count r [cur.getLast?.getD 0, c] ((Str.utf8Of (cur.getLast?.getD 0)).length + (Str.utf8Of c).length)
        simp only [List.length_cons]; omega
      · have := fsGo_count r [c] (Str.utf8Of c).length
        simp only [List.length_cons]; omega
    · have := fsGo_count r (cur ++ [c]) (n + (Str.utf8Of c).length)
      simp only [List.length_cons]; omega
theorem fold_len (x : List Nat) : (fold x).length ≤ 4 * x.length + 3 := by
  have h1 := jn_len (fsGo x [] 0)
  have h2 := fsGo_count x [] 0
  rw [fsGo_flat] at h1
  unfold fold
  simp only [List.nil_append] at h1
  omega
set_option maxHeartbeats 8000000 in
theorem ical_spec {w : World} {mean : ExcName → Option Value} {mg mb : Str → Option Value} {h₀ : Heap} {s : Shared} {A : Around} {Q E : Value → Shared → Prop}
  {x : List Nat} {c : Addr}
  (S : Sits w mean mg mb h₀ s.heap) (V : ClAt s.heap c (txt x)) (hx : x.length ≤ 1000) (hnl : 10 ∉ x) (hs : ∀ c ∈ x, Sign c) (hd : A.depth + 2 < recursionLimit) (hu : A.units + 18 < cLine) (hA : A.handled = none)
  (hret : ∀ h' tk' t', Grew [] s.heap h' → Q (.bytes (enc (fold x)).toArray t') { s with heap := h', toks := tk' }) :
  wpAny (model PySem.Challenge.pw_be0022_01 w) A (call (.ref 439) [.ref c]) Q E s := by
  (have Dz := dum; revert Dz; k_fill; intro Dz; clear Dz)
  refine wpAny_call ?_
  (k_dflt (refine' enter _ ?k1 ?kb ?k6 ?k7 ?k8 ?k9 ?kl ?_ ?c2 ?c3 ?c4 ?c5; (case k1 => k_asm); (case kb => first | assumption | exact List.forall_mem_nil _); (case k6 => k_is); (case k7 => k_is); (case k8 => omega); (case k9 => first | exact BindsTo.of_eq rfl | (refine' binds_K (K := Mine.hd.heap_1 _) (Frag.In.keeps (Sits.X (by assumption)) (Sits.keep (by assumption))) rfl ?kd ?kr1 ?kr2 ?kr3; (case kd => k_is); (case kr1 => exact rfl); (case kr2 => exact rfl); (case kr3 => exact rfl))); (case c2 => decide); (case kl => exact locs rfl); (case c3 => exact rfl); (case c4 => exact rfl); (case c5 => exact rfl); k_whole); intro _ _ _ _ _ _ _ _; (try dsimp only); (try k_fold))
  (repeat' (first | (k_unfold; (try dsimp only)) | ((fail_if_success with_reducible (first | refine st0 ?_ | refine st1 ?_ | refine st2 ?_ | refine st3 ?_ | refine st4 ?_ | refine st5 ?_ | refine st6 ?_ | refine st7 ?_ | refine st8 ?_)); walk1) | (dsimp only; (fail_if_success with_reducible (first | refine st0 ?_ | refine st1 ?_ | refine st2 ?_ | refine st3 ?_ | refine st4 ?_ | refine st5 ?_ | refine st6 ?_ | refine st7 ?_ | refine st8 ?_)); walk1) | (leave1; (try dsimp only)) | dsimp only | fail "no step"))
  rename Fr _ _ _ _ => F1
  rename News _ _ _ _ => N1
  rename Frag.In _ _ => X1
  rename Top _ _ _ _ _ _ => T1
  rename Under _ _ _ _ => U1
  have V1 := (V.keeps fun b o e => U1.up b o (fun q => nomatch q) e).keeps F1.keep
  refine fold_spec (sits_of F1 X1 T1) (.inr ⟨c, rfl, V1⟩) hx hnl hs (show A.depth + 1 + 1 < _ by omega) (show A.units + 3 + 8 < _ by omega) hA ?_
  rintro v h2 tk2 ⟨t2, rfl⟩ G2
  replace F1 := fr_nil F1 G2
  replace N1 := news_nil N1 G2
  clear G2
  (repeat' (first | (k_unfold; (try dsimp only)) | ((fail_if_success with_reducible (first | refine st0 ?_ | refine st1 ?_ | refine st2 ?_ | refine st3 ?_ | refine st4 ?_ | refine st5 ?_ | refine st6 ?_ | refine st7 ?_ | refine st8 ?_)); walk1) | (dsimp only; (fail_if_success with_reducible (first | refine st0 ?_ | refine st1 ?_ | refine st2 ?_ | refine st3 ?_ | refine st4 ?_ | refine st5 ?_ | refine st6 ?_ | refine st7 ?_ | refine st8 ?_)); walk1) | (leave1; (try dsimp only)) | dsimp only | fail "no step"))
  refine encode2 (fun c hc => sign_plain (fold_signs hs c hc)) (by have := fold_len x; omega) ?_
  intro t9 k9
  try k_unfold
  try dsimp only
  refine hret _ _ _ (U1.grew F1)
end
section
theorem fresh_La : True := by w_top off; trivial
open PySem.Builtin PySem.W.X
section
variable {w : World} {A : Around} {E : Value → Shared → Prop} {s : Shared} {Q : Value → Shared → Prop}
local macro_rules | `(tactic| x_close) => `(tactic| (apply_assumption; assumption))
set_option maxHeartbeats 4000000 in
theorem list_new (X : (Mine.hd.heap_1 w.params).In s.heap) (v : Value) (hret : ∀ c dx h', Mem s.heap h' [] [(c, { cls := .ref 474, dict := some dx, data := .seq #[] 0, slots := #[] }), (dx, { cls := .type "dict", dict := none, data := .dict #[] 0, slots := #[] })] → Q (.ref c) ⟨h', s.gens, s.drawn, s.toks, s.os⟩) : wpAny (model PySem.Challenge.pw_be0022_01 w) A (call (.builtin "list.__new__") [.ref 474, v]) Q E s := by
  x_run
end
open PySem.Builtin.List
noncomputable abbrev lsO (dx : Addr) (vs : Array Value) (n : Nat) : Obj := { cls := .ref 474, dict := some dx, data := .seq vs n }
/-- a Contentlines in the heap -/
noncomputable def LsD (h : Heap) (c : Addr) (vs : Array Value) (dx : Addr) : Prop := ∃ n, h.get? c = some (lsO dx vs n) ∧ h.get? dx = some emptyDict
noncomputable def LsAt (h : Heap) (c : Addr) (vs : Array Value) : Prop := ∃ dx, LsD h c vs dx
theorem LsAt.keeps {h h' : Heap} {c : Addr} {vs : Array Value} (V : LsAt h c vs) (k : ∀ b o, h.get? b = some o → h'.get? b = some o) : LsAt h' c vs := by
  obtain ⟨dx, n, a, b⟩ := V
  exact ⟨dx, n, k _ _ a, k _ _ b⟩
theorem ls_made {M : Model} {P : Params} {h : Heap} (X : (KK P).In h) : Looks M h (Bind.madeBy (.ref 474)) (some "list.__new__") := Looks.of_peek X (by kernel_rfl)
theorem ls_mroOf {M : Model} {P : Params} {h : Heap} (X : (KK P).In h) : Looks M h (mroOf (.ref 474)) [.ref 474, .type "list", .type "object"] := Looks.of_peek X (by kernel_rfl)
theorem ls_callSp {M : Model} {P : Params} {h : Heap} (X : (KK P).In h) : Looks M h (specialOf (.ref 474) "__call__") (some (.builtin "type.__call__")) := Looks.of_peek X (by kernel_rfl)
theorem ls_isType {M : Model} {P : Params} {h : Heap} (X : (KK P).In h) : Looks M h (isInstance (.ref 474) (.type "type")) true := Looks.of_peek X (by kernel_rfl)
theorem ls_init (P : Params) : findIn (KK P) (.ref 474) (Str.ofString "__init__") = some (some (.builtin "list.__init__")) := by kernel_rfl
theorem ls_iter (P : Params) : findIn (KK P) (.ref 474) (Str.ofString "__iter__") = some (some (.builtin "list.__iter__")) := by kernel_rfl
theorem ls_self (P : Params) : mroIn (KK P) 474 (.ref 474) = some true := by kernel_rfl
theorem ls_mro (P : Params) : mroIn (KK P) 474 (.type "list") = some true := by kernel_rfl
theorem ls_some (P : Params) : (clsIn (KK P) 474).isSome = true := by kernel_rfl
theorem ls_inst {h : Heap} {c : Addr} {vs : Array Value} (hc : LsAt h c vs) : ∃ ox, InstAt h c ox 474 (some emptyDict) := by
  obtain ⟨dx, n, a, b⟩ := hc
  exact ⟨_, a, rfl, rfl, b⟩
section
variable {M : Model} {A : Around} {E : Value → Shared → Prop} {s : Shared} {c : Addr} {vs : Array Value}
theorem ls_items {Q : Array Value → Shared → Prop} (H : LsAt s.heap c vs) (h : Q vs s) : wpAny M A (listItems (.ref c)) Q E s := by
  obtain ⟨dx, n, a, b⟩ := H
  exact wpAny_bind (wpAny_bind (wpAny_load a (wpAny_pure (wpAny_pure h))))
theorem ls_upd {d : Addr} {f : Array Value → Array Value} {Q : Unit → Shared → Prop} (H : LsD s.heap c vs d) (hz : vs.size ≤ 1000000) (hz' : (f vs).size ≤ 1000000) (h : ∀ h', Heap.SameBut c s.heap h' → LsD h' c (f vs) d → Q () { s with heap := h' }) :
    wpAny M A (listUpdate (.ref c) f) Q E s := by
  obtain ⟨n, a, b⟩ := H
  have hne : d ≠ c := fun q => by rw [q, a] at b; have := congrArg Obj.cls (Option.some.inj b); cases this
  have hs : Heap.SameBut c s.heap (s.heap.update c (Obj.mapSeq f)) := Heap.SameBut.update ..
  have e : Obj.mapSeq f (lsO d vs n) = lsO d (f vs) (if (f vs).size == vs.size then n else n + 1) := rfl
  have g : (s.heap.update c (Obj.mapSeq f)).get? c = some (lsO d (f vs) (if (f vs).size == vs.size then n else n + 1)) := by
    rw [Heap.get?_update_self _ a (by rw [e]; rfl), e]
  exact wpAny_updateSeq a rfl (h _ hs ⟨_, g, hs.extBut _ _ hne b⟩) (by rw [sizeLine_eq]; omega) (by rw [sizeLine_eq]; omega)
end
theorem ls_typeOf {M : Model} {h : Heap} {c : Addr} {vs : Array Value} (H : LsAt h c vs) : Looks M h (typeOf (.ref c)) (.ref 474) := by
  obtain ⟨_, I⟩ := ls_inst H
  exact I.type
section
variable {prog : Program} {w : World} {A : Around} {E : Value → Shared → Prop} {s : Shared} {R : Result → Shared → Prop} {c : Addr}
theorem entry_li : entryFor table "list.__init__" = some Builtin.«list.__init__» := entryFor_of_tree (by kernel_rfl)
theorem li_plain : plainId "list.__init__" = true := by decide +kernel
theorem li_kind : builtinKind "list.__init__" = some .slot := by decide +kernel
theorem li_split : splitId "list.__init__" = some ("list", "__init__") := by decide +kernel
theorem li_args (a b : Value) : argsOk "list.__init__" ⟨[a, b], []⟩ := by unfold argsOk; kernel_rfl
theorem li_bind (self : Value) : bindSpecial (.builtin "list.__init__") self = pure (.builtin "list.__init__", [self]) := by kernel_rfl
/-- list.__init__ on a fresh Contentlines -/
theorem init_ls {d : Addr} {v : Value} {Q : Fin → Shared → Prop} (H : LsD s.heap c #[] d) (h : ∀ h', Heap.SameBut c s.heap h' → LsD h' c #[] d → wpAny (model prog w) A (listExtendWith (.ref c) v .none) Q E { s with heap := h' }) :
    wpAny (model prog w) A (Builtin.«list.__init__» ⟨[.ref c, v], []⟩) Q E s := by
  unfold Builtin.«list.__init__»
  show wpAny _ _ (listItems (.ref c) >>= _) _ _ _
  refine wpAny_bind (ls_items ⟨_, H⟩ ?_)
  refine wpAny_bind (ls_upd H (by simp) (by simp) fun h' hs H' => ?_)
  show wpAny _ _ (letGo [] >>= _) _ _ _
  exact wpAny_bind (wpAny_letGo (h h' hs H'))
/-- from an exact list -/
theorem extend_list {d : Addr} {l : Addr} {ys : Array Value} {n : Nat} {Q : Fin → Shared → Prop} (H : LsD s.heap c #[] d) (hl : s.heap.get? l = some (listOf ys n)) (hz : ys.size ≤ 1000000)
    (h : ∀ h', Heap.SameBut c s.heap h' → LsD h' c ys d → Q (.done (.ret .none)) { s with heap := h' }) : wpAny (model prog w) A (listExtendWith (.ref c) (.ref l) .none) Q E s := by
  unfold listExtendWith
  have hT : s.TypeIs (.ref l) "list" := ⟨_, hl, rfl⟩
  refine wpAny_bind (wpAny_typeOf hT ?_)
  rw [if_pos (by simp)]
  refine wpAny_bind (m := listItems (.ref l)) (wpAny_bind (wpAny_bind (wpAny_load hl (wpAny_pure (wpAny_pure ?_)))))
  refine wpAny_bind (ls_items ⟨_, H⟩ ?_)
  rw [if_neg (by simp)]
  refine wpAny_bind (ls_upd H (by simp) (by simpa using hz) fun h' hs H' => ?_)
  exact wpAny_bind (wpAny_pure (wpAny_pure (h h' hs (by simpa using H'))))
end
end
section
theorem fresh_Lm : True := by w_top off; trivial
open PySem.Builtin PySem.Builtin.List PySem.W.X
section
variable {w : World} {A : Around} {s : Shared} {R : Result → Shared → Prop}
set_option maxHeartbeats 4000000 in
theorem make_ls {v : Value} (X : (KK w.params).In s.heap)
    (h : ∀ c d h' tk, (∀ b o, s.heap.get? b = some o → h'.get? b = some o) → LsD h' c #[] d → s.heap.get? c = none → s.heap.get? d = none →
      wpAny (model PySem.Challenge.pw_be0022_01 w) (A.under (.builtin "type.__call__" ⟨[.ref 474, v], []⟩)).in1 (listExtendWith (.ref c) v .none)
        (fun fin s' => match fin with
          | .done f => f = .ret .none ∧ R (.ok (.ret (.ref c))) s'
          | .again c' => c'.quiet = true ∧ codeAny (model PySem.Challenge.pw_be0022_01 w) (A.under (.builtin "type.__call__" ⟨[.ref 474, v], []⟩)) c' (fun r s' => match r with | .ok f => f = .ret .none ∧ R (.ok (.ret (.ref c))) s' | .error e => R (.error e) s') s')
        (fun e s' => R (.error e) s') { s with heap := h', toks := tk }) :
    codeAny (model PySem.Challenge.pw_be0022_01 w) A (.call (.ref 474) ⟨[v], []⟩) R s := by
  have L1 := ls_callSp (M := model PySem.Challenge.pw_be0022_01 w) X
  have L2 := ls_mroOf (M := model PySem.Challenge.pw_be0022_01 w) X
  have L3 := ls_made (M := model PySem.Challenge.pw_be0022_01 w) X
  obtain ⟨hh, g, d, t, os⟩ := s
  obtain ⟨oc, od, cd, sl, hlk⟩ := cls_obj (ls_some w.params)
  have hoc : hh.get? 474 = some ⟨oc, od, .cls cd, sl⟩ := X _ _ hlk
  refine codeAny_of_tree ?_
  show wpAny _ _ (callAny (.ref 474) _) _ _ _
  refine nd_load hoc ?_
  show wpAny _ _ (callAny.viaDunder (.ref 474) _) _ _ _
  unfold callAny.viaDunder
  refine wpAny_bind (L1.at ?_)
  dsimp only
  rw [tc_bind]
  refine wpAny_bind (wpAny_pure (wpAny_bind (wpAny_pure ?_)))
  refine wpAny_pure (a := Fin.again (.call (.builtin "type.__call__") ⟨[.ref 474, v], []⟩)) (And.intro rfl ?_)
  refine codeAny_call_builtin_at (Code.quiet_builtin _ (by decide +kernel)) entry_typeCall (check_slot tc_kind tc_split (ls_isType X) (tc_args _ _ _) ?_)
  unfold Builtin.«type.__call__»
  show wpAny _ _ (mroOf (.ref 474) >>= _) _ _ _
  refine wpAny_bind (L2.at ?_)
  show wpAny _ _ (Bind.madeBy (.ref 474) >>= _) _ _ _
  refine wpAny_bind (L3.at ?_)
  dsimp only
  refine wpAny_bind (wpAny_pure (wpAny_bind (wpAny_holding (list_new X v ?_))))
  intro c dx h' D
  obtain ⟨c1, c2⟩ := mem_new D
  have k := mem_keep D
  have H : LsD h' c #[] dx := ⟨_, c1, (D.nw _ (.tail _ (.head _))).1⟩
  have X' : (KK w.params).In h' := X.keeps k
  obtain ⟨_, I⟩ := ls_inst ⟨_, H⟩
  refine wpAny_bind ((inst_looks X' I (ls_self w.params)).at ?_)
  show wpAny _ _ (holding [.ref c] (callSpecial? (.ref c) "__init__" [v] []) >>= _) _ _ _
  refine wpAny_bind (wpAny_holding (special_bi X' I (ls_init w.params) li_bind ?_))
  refine wpAny_call (codeAny_call_builtin li_plain entry_li (check_slot li_kind li_split (inst_looks X' I (ls_mro w.params)) (li_args _ _) ?_))
  refine init_ls H fun h2 hs H2 => ?_
  refine wpAny_mono (h c dx h2 t (fun b o e => hs.extBut b o (fun q => by rw [q, c2] at e; cases e) (k b o e)) H2 c2 (D.nw _ (.tail _ (.head _))).2) (fun fin s' hf => ?_) fun _ _ e => e
  cases fin with
  | done f =>
    obtain ⟨rfl, hR⟩ := hf
    exact wpAny_pure hR
  | again c' =>
    refine ⟨hf.1, codeAny_mono hf.2 fun r s'' hr => ?_⟩
    cases r with
    | error e => exact hr
    | ok f =>
      obtain ⟨rfl, hR⟩ := hr
      exact wpAny_pure hR
end
theorem ls_of_list {w : World} {A : Around} {s : Shared} {Q E : Value → Shared → Prop} {l : Addr} {ys : Array Value} {n : Nat} (X : (KK w.params).In s.heap) (hl : s.heap.get? l = some (listOf ys n)) (hz : ys.size ≤ 1000000)
    (hret : ∀ c h' tk, (∀ b o, s.heap.get? b = some o → h'.get? b = some o) → LsAt h' c ys → s.heap.get? c = none → Q (.ref c) { s with heap := h', toks := tk }) :
    wpAny (model PySem.Challenge.pw_be0022_01 w) A (call (.ref 474) [.ref l]) Q E s := by
  refine wpAny_call (make_ls X fun c d h' tk k H hc hd => ?_)
  refine extend_list H (k _ _ hl) hz fun h2 hs H2 => ⟨rfl, ?_⟩
  exact hret c h2 tk (fun b o e => hs.extBut b o (fun q => by rw [q, hc] at e; cases e) (k b o e)) ⟨_, H2⟩ hc
/-- the loop of list.extend: an invariant over what has been laid in -/
theorem q_ext (args : Args) : (Code.builtin "list.extend.loop" args).quiet = true := plainId_quiet (by decide +kernel) args
theorem entry_ext : entryFor table "list.extend.loop" = some Builtin.«list.extend.loop» := entryFor_of_tree (by kernel_rfl)
theorem plain_ext : plainId "list.extend.loop" = true := by decide +kernel
theorem ext_loop {d : Addr} {prog : Program} {w : World} {A : Around} {it : Value} {c : Addr} {RR : Result → Shared → Prop} {n : Nat} (hn : n ≤ 100000) (J : Nat → List Value → Shared → Prop)
    (hJ : ∀ i ys ys' s h', J i ys s → LsD s.heap c ys' d → Heap.SameBut c s.heap h' → J i ys { s with heap := h' })
    (next : ∀ i ys s (Q : Option Value → Shared → Prop) (E : Value → Shared → Prop), i < n → J i ys s → LsD s.heap c ys.toArray d → (∀ v s', J (i + 1) (ys ++ [v]) s' → LsD s'.heap c ys.toArray d → Q (some v) s') → wpAny (model prog w) A.in1 (pyNext it) Q E s)
    (last : ∀ ys s (Q : Option Value → Shared → Prop) (E : Value → Shared → Prop), J n ys s → LsD s.heap c ys.toArray d → (∀ s', J (n + 1) ys s' → LsD s'.heap c ys.toArray d → Q none s') → wpAny (model prog w) A.in1 (pyNext it) Q E s)
    (hret : ∀ ys s, J (n + 1) ys s → LsD s.heap c ys.toArray d → RR (.ok (.ret .none)) s) :
    ∀ k i ys s, n - i = k → i ≤ n → ys.length = i → J i ys s → LsD s.heap c ys.toArray d → codeAny (model prog w) A (.builtin "list.extend.loop" ⟨[.ref c, it, .none], []⟩) RR s := by
  intro k
  induction k with
  | zero =>
    intro i ys s hk hi hl hj H
    obtain rfl : i = n := by omega
    refine codeAny_builtin entry_ext ?_
    rw [Around.under_plainId plain_ext _]
    show wpAny _ _ (pyNext it >>= _) _ _ _
    refine wpAny_bind (last ys s _ _ hj H fun s' hj' H' => ?_)
    exact wpAny_pure (hret ys s' hj' H')
  | succ k ih =>
    intro i ys s hk hi hl hj H
    refine codeAny_builtin entry_ext ?_
    rw [Around.under_plainId plain_ext _]
    show wpAny _ _ (pyNext it >>= _) _ _ _
    refine wpAny_bind (next i ys s _ _ (by omega) hj H fun v s' hj' H' => ?_)
    show wpAny _ _ (listUpdate (.ref c) (·.push v) >>= _) _ _ _
    refine wpAny_bind (ls_upd H' (by simp; omega) (by simp; omega) fun h' hs H2 => wpAny_pure ⟨q_ext _, ?_⟩)
    refine ih (i + 1) (ys ++ [v]) { s' with heap := h' } (by omega) (by omega) (by rw [List.length_append, hl]; rfl) (hJ _ _ _ _ _ hj' H' hs) (by simpa using H2)
end
section
theorem fresh_Pw : True := by w_top off; trivial
/-- a text as it is written -/
noncomputable def body (ts : List (List Nat)) : List Nat := (ts.map fun t => fold t ++ [13, 10]).flatten
theorem unf_step {c : Nat} {r : List Nat} (h1 : c ≠ 10) (h2 : r.head? ≠ some 10) : unf (c :: r) = c :: unf r := by
  have : nls (c :: r) = c :: r := by
    refine nls_not (by simpa using h1) ?_
    intro q
    cases r with
    | nil => simp at q
    | cons d r => simp at q; exact h2 (by simp [q.2])
  refine unf_keep ?_
  intro b q e hl
  rw [this] at e
  cases e
  exact absurd hl (Nat.lt_irrefl _)
theorem unf_run (R : List Nat) (hR : R.head? ≠ some 10) : ∀ seg : List Nat, 10 ∉ seg → unf (seg ++ R) = seg ++ unf R
  | [], _ => rfl
  | c :: r, h => by
    have hr : 10 ∉ r := fun q => h (.tail _ q)
    rw [List.cons_append, unf_step (fun e => h (by rw [e]; exact .head _)) ?_, unf_run R hR r hr, List.cons_append]
    cases r with
    | nil => exact hR
    | cons d r => intro q; simp at q; exact hr (by rw [q]; exact .head _)
theorem unf_fold1 (R : List Nat) : unf (13 :: 10 :: 32 :: R) = unf R := by
  have : nls (13 :: 10 :: 32 :: R) = 32 :: R := by rw [nls_1310, nls_not (by simp) (by simp)]
  exact unf_drop this (by simp only [List.length_cons]; omega) (.inl rfl)
theorem unf_jn (R : List Nat) (hR : R.head? ≠ some 10) : ∀ segs : List (List Nat), (∀ s ∈ segs, 10 ∉ s) → unf (jn [13, 10, 32] segs ++ R) = segs.flatten ++ unf R
  | [], _ => rfl
  | [x], h => by
    rw [jn, unf_run R hR x (h x (.head _))]
    simp
  | x :: y :: r, h => by
    rw [jn, List.append_assoc, List.append_assoc, unf_run _ (by simp) x (h x (.head _))]
    show x ++ unf (13 :: 10 :: 32 :: (jn [13, 10, 32] (y :: r) ++ R)) = _
    rw [unf_fold1, unf_jn R hR (y :: r) (fun s q => h s (.tail _ q))]
    simp
theorem fsGo_no {x : List Nat} (h : 10 ∉ x) : ∀ s ∈ fsGo x [] 0, 10 ∉ s := by
  intro s hs q
  have := fsGo_flat x [] 0
  exact h (by rw [← List.nil_append x, ← this]; exact List.mem_flatten.mpr ⟨s, hs, q⟩)
theorem unf_of_fold {x R : List Nat} (h : 10 ∉ x) (hR : R.head? ≠ some 10) : unf (fold x ++ R) = x ++ unf R := by
  rw [fold, unf_jn R hR _ (fsGo_no h), fsGo_flat]; rfl
theorem fsGo_first : ∀ (x : List Nat) (c : Nat) (cs : List Nat) (n : Nat), ∃ s r, fsGo x (c :: cs) n = (c :: s) :: r
  | [], c, cs, n => ⟨cs, [], by simp [fsGo]⟩
  | d :: x, c, cs, n => by
    unfold fsGo
    split
    · split
      · rename_i h
        cases cs with
        | nil => simp at h
        | cons e cs => exact ⟨_, _, by rw [List.dropLast_cons_cons]⟩
      · exact ⟨_, _, rfl⟩
    · exact fsGo_first x c (cs ++ [d]) _
theorem jn_first (c : Nat) (s : List Nat) (r : List (List Nat)) (R : List Nat) (hs : 10 ∉ s) (hR : R.head? ≠ some 10) : ∃ q, jn [13, 10, 32] ((c :: s) :: r) ++ R = c :: q ∧ q.head? ≠ some 10 := by
  have key : ∀ W : List Nat, W.head? ≠ some 10 → (s ++ W).head? ≠ some 10 := by
    intro W hW
    cases s with
    | nil => exact hW
    | cons d s => intro q; simp at q; exact hs (by rw [q]; exact .head _)
  cases r with
  | nil => exact ⟨s ++ R, rfl, key R hR⟩
  | cons y r =>
    refine ⟨s ++ ([13, 10, 32] ++ jn [13, 10, 32] (y :: r) ++ R), by simp [jn], key _ (by simp)⟩
theorem fold_first {c : Nat} {x R : List Nat} (h : 10 ∉ c :: x) (hR : R.head? ≠ some 10) : ∃ q, fold (c :: x) ++ R = c :: q ∧ q.head? ≠ some 10 := by
  have e : fsGo (c :: x) [] 0 = fsGo x [c] (0 + (Str.utf8Of c).length) := by
    rw [fsGo, if_neg (by simp)]; rfl
  obtain ⟨s, r, es⟩ := fsGo_first x c [] (0 + (Str.utf8Of c).length)
  have hno := fsGo_no h
  rw [e, es] at hno
  rw [fold, e, es]
  refine jn_first c s r R ?_ hR
  intro q
  exact hno _ (.head _) (.tail _ q)
/-- a line that may be written and read -/
noncomputable def Plain (t : List Nat) : Prop := 10 ∉ t ∧ ∀ c ∈ t.head?, c ≠ 32 ∧ c ≠ 9
theorem body_cons (t : List Nat) (ts : List (List Nat)) : body (t :: ts) = fold t ++ 13 :: 10 :: body ts := by
  simp [body]
theorem body_nls {ts : List (List Nat)} (hn : ∀ t ∈ ts, t ≠ []) (hp : ∀ t ∈ ts, Plain t) : nls (body ts) = body ts ∧ ∀ b q, body ts = b :: q → ¬ (b = 32 ∨ b = 9) := by
  cases ts with
  | nil => exact ⟨by rw [body]; simp [nls], fun b q e => by simp [body] at e⟩
  | cons t ts =>
    cases t with
    | nil => exact absurd rfl (hn [] (.head _))
    | cons c x =>
      obtain ⟨h1, h2⟩ := hp _ (.head _)
      obtain ⟨q, e, hq⟩ := fold_first (R := 13 :: 10 :: body ts) h1 (by simp)
      rw [body_cons, e]
      have hc : c ≠ 10 := fun e => h1 (by rw [e]; exact .head _)
      refine ⟨nls_not (by simpa using hc) ?_, ?_⟩
      · intro z
        cases q with
        | nil => simp at z
        | cons d r => simp at z; exact hq (by simp [z.2])
      · intro b r er
        cases er
        have := h2 c rfl
        omega
theorem unf_end {ts : List (List Nat)} (hn : ∀ t ∈ ts, t ≠ []) (hp : ∀ t ∈ ts, Plain t) : unf (13 :: 10 :: body ts) = 13 :: 10 :: unf (body ts) := by
  obtain ⟨h1, h2⟩ := body_nls hn hp
  have a : unf (10 :: body ts) = 10 :: unf (body ts) := by
    refine unf_keep ?_
    intro b q e _
    rw [nls_10, h1] at e
    exact h2 b q e
  rw [unf_keep, a]
  intro b q e _
  rw [nls_1310, h1] at e
  exact h2 b q e
theorem unf_body : ∀ {ts : List (List Nat)}, (∀ t ∈ ts, t ≠ []) → (∀ t ∈ ts, Plain t) → unf (body ts) = (ts.map fun t => t ++ [13, 10]).flatten
  | [], _, _ => by simp [body, unf_nil]
  | t :: ts, hn, hp => by
    have hn' : ∀ t ∈ ts, t ≠ [] := fun u q => hn u (.tail _ q)
    have hp' : ∀ t ∈ ts, Plain t := fun u q => hp u (.tail _ q)
    rw [body_cons, unf_of_fold (hp t (.head _)).1 (by simp), unf_end hn' hp', unf_body hn' hp']
    simp
theorem lsGo_seg (l : List Nat) : ∀ (seg line : List Nat), 10 ∉ seg → lsGo (seg ++ l) line = lsGo l (line ++ seg)
  | [], line, _ => by simp
  | c :: r, line, h => by
    have hc : c ≠ 10 := fun e => h (by rw [e]; exact .head _)
    rw [List.cons_append, lsGo, if_neg hc, lsGo_seg l r _ (fun q => h (.tail _ q))]
    simp
theorem lsGo_lines : ∀ ts : List (List Nat), (∀ t ∈ ts, 10 ∉ t) → lsGo (ts.map fun t => t ++ [13, 10]).flatten [] = ts ++ [[]]
  | [], _ => rfl
  | t :: ts, h => by
    have e : ((t :: ts).map fun t => t ++ [13, 10]).flatten = (t ++ [13]) ++ 10 :: (ts.map fun t => t ++ [13, 10]).flatten := by simp
    have h1 : 10 ∉ t ++ [13] := by
      intro q
      rcases List.mem_append.mp q with q | q
      · exact h t (.head _) q
      · simp at q
    rw [e, lsGo_seg _ _ _ h1, lsGo, if_pos rfl, lsGo_lines ts (fun u q => h u (.tail _ q))]
    simp [chop]
theorem lines_body {ts : List (List Nat)} (hn : ∀ t ∈ ts, t ≠ []) (hp : ∀ t ∈ ts, Plain t) : lines (unf (body ts)) = ts ++ [[]] := by
  rw [unf_body hn hp, lines, lsGo_lines ts fun t q => (hp t q).1]
  congr 1
  rw [List.filter_append, List.filter_eq_self.mpr fun t q => by simpa using hn t q]
  simp
theorem lines_none : lines (unf [13, 10]) = [[]] := by
  have := unf_end (ts := []) (fun _ q => nomatch q) (fun _ q => nomatch q)
  have e : body [] = [] := rfl
  rw [e, unf_nil] at this
  rw [this]; rfl
theorem chop_mem {l : List Nat} {c : Nat} (h : c ∈ chop l) : c ∈ l := by
  unfold chop at h
  split at h
  · exact List.dropLast_subset _ h
  · exact h
theorem chop_le (l : List Nat) : (chop l).length ≤ l.length := by
  unfold chop
  split
  · rw [List.length_dropLast]; omega
  · exact Nat.le_refl _
theorem lsGo_mem : ∀ (x line l : List Nat), l ∈ lsGo x line → ∀ c ∈ l, c ∈ line ∨ (c ∈ x ∧ c ≠ 10)
  | [], line, l, h, c, hc => by
    rw [lsGo] at h
    obtain rfl := List.mem_singleton.mp h
    exact .inl hc
  | d :: x, line, l, h, c, hc => by
    rw [lsGo] at h
    split at h
    · rcases List.mem_cons.mp h with rfl | h
      · exact .inl (chop_mem hc)
      · rcases lsGo_mem x [] l h c hc with q | q
        · cases q
        · exact .inr ⟨.tail _ q.1, q.2⟩
    · rename_i hd
      rcases lsGo_mem x _ l h c hc with q | q
      · rcases List.mem_append.mp q with q | q
        · exact .inl q
        · obtain rfl := List.mem_singleton.mp q
          exact .inr ⟨.head _, hd⟩
      · exact .inr ⟨.tail _ q.1, q.2⟩
theorem lsGo_le : ∀ (x line l : List Nat), l ∈ lsGo x line → l.length ≤ line.length + x.length
  | [], line, l, h => by
    rw [lsGo] at h
    obtain rfl := List.mem_singleton.mp h
    omega
  | d :: x, line, l, h => by
    rw [lsGo] at h
    split at h
    · rcases List.mem_cons.mp h with rfl | h
      · have := chop_le line; omega
      · have := lsGo_le x [] l h; simp at this ⊢; omega
    · have := lsGo_le x _ l h
      simp at this ⊢; omega
theorem lsGo_count : ∀ (x line : List Nat), (lsGo x line).length ≤ x.length + 1
  | [], line => by simp [lsGo]
  | d :: x, line => by
    rw [lsGo]
    split
    · have := lsGo_count x []; simp at this ⊢; omega
    · have := lsGo_count x (line ++ [d]); simp at this ⊢; omega
theorem nls_mem : ∀ (l : List Nat) (c : Nat), c ∈ nls l → c ∈ l
  | [], c, h => h
  | d :: r, c, h => by
    rw [nls.eq_def] at h
    dsimp only at h
    split at h
    · exact .tail _ (nls_mem r c h)
    · split at h
      · exact h
      · rename_i e q
        split at h
        · exact .tail _ (.tail _ (nls_mem q c h))
        · exact h
theorem unf_mem (l : List Nat) : ∀ c ∈ unf l, c ∈ l := by
  induction l using unf.induct with
  | case1 => intro c h; rw [unf_nil] at h; exact h
  | case2 c r h ih =>
    intro d hd
    rw [unf_keep (by intro b q e; rw [h] at e; cases e)] at hd
    rcases List.mem_cons.mp hd with rfl | hd
    · exact .head _
    · exact .tail _ (ih d hd)
  | case3 c r b q h hc ih =>
    intro d hd
    rw [unf_drop h hc.1 hc.2] at hd
    exact nls_mem _ _ (by rw [h]; exact .tail _ (ih d hd))
  | case4 c r b q h hc ih =>
    intro d hd
    rw [unf_keep (by intro b' q' e; rw [h] at e; cases e; exact fun g z => hc ⟨g, z⟩)] at hd
    rcases List.mem_cons.mp hd with rfl | hd
    · exact .head _
    · exact .tail _ (ih d hd)
theorem unf_le (l : List Nat) : (unf l).length ≤ l.length := by
  induction l using unf.induct with
  | case1 => rw [unf_nil]; exact Nat.le_refl _
  | case2 c r h ih =>
    rw [unf_keep (by intro b q e; rw [h] at e; cases e)]
    simp only [List.length_cons]; omega
  | case3 c r b q h hc ih =>
    rw [unf_drop h hc.1 hc.2]
    simp only [List.length_cons]; omega
  | case4 c r b q h hc ih =>
    rw [unf_keep (by intro b' q' e; rw [h] at e; cases e; exact fun g z => hc ⟨g, z⟩)]
    simp only [List.length_cons]; omega
/-- the lines that are not empty -/
noncomputable def full (x : List Nat) : List (List Nat) := (lsGo x []).filter (fun l => l != [])
theorem lines_full (x : List Nat) : lines x = full x ++ [[]] := rfl
theorem full_ne {x t : List Nat} (h : t ∈ full x) : t ≠ [] := by simpa using (List.mem_filter.mp h).2
theorem full_mem {x t : List Nat} (h : t ∈ full x) : ∀ c ∈ t, c ∈ x ∧ c ≠ 10 := by
  intro c hc
  rcases lsGo_mem x [] t (List.mem_filter.mp h).1 c hc with q | q
  · cases q
  · exact q
theorem full_le {x t : List Nat} (h : t ∈ full x) : t.length ≤ x.length := by
  have := lsGo_le x [] t (List.mem_filter.mp h).1
  simpa using this
theorem full_count (x : List Nat) : (full x).length ≤ x.length + 1 := Nat.le_trans (List.length_filter_le _ _) (lsGo_count x [])
/-- what was read is written and read again as it is -/
theorem pw_again {x : List Nat} (h : ∀ t ∈ full x, ∀ c ∈ t.head?, c ≠ 32 ∧ c ≠ 9) :
    lines (unf (if full x = [] then [13, 10] else body (full x))) = lines x := by
  split
  · rename_i e; rw [lines_none, lines_full, e]; rfl
  · rw [lines_body (fun t q => full_ne q) (fun t q => ⟨fun z => (full_mem q 10 z).2 rfl, h t q⟩), lines_full]
end
section
theorem fresh_Ge : True := by w_top off; trivial
open Sem (wp)
/-- between two turns others may write what is in ow alone -/
noncomputable def gp (C : Addr) (ow : Addr → Prop) (wr : List Addr) (pz : Nat → Bool) (n₀ : Nat) (F : Nat → Value → Heap → Prop) : Protocol := fun m s₀ v s kap =>
  (∃ i, (passing pz n₀ 0)[(passing pz n₀ 0).length - 1 - m]? = some i ∧ F i v s.heap) ∧ GenSince C wr s₀ s ∧
    ∀ s'' : Shared, (∀ b, ¬ ow b → ∀ o, s.heap.get? b = some o → s''.heap.get? b = some o) → kap (.send .none) s''
structure QG (prog : Program) (w : World) (cenv : Env) (x : Str) (ifs : List Expr) (elt : Expr) (P : Nat → Value → Prop) (St₀ : Nat → Heap → Prop) (pz : Nat → Bool) (F : Nat → Value → Heap → Prop) (Inv : Heap → Prop) (D U : Nat) : Prop where
  tests : ∀ (A' : Around) E' i v (s₂ : Shared) m₂, A'.handled = none → A'.depth ≤ D → A'.units ≤ U → P i v → s₂.heap.Ns cenv.locals m₂ → m₂ x = some v → Inv s₂.heap → St₀ (i + 1) s₂.heap →
    wpAny (model prog w) A' (forIn ifs true fun c r => if r = true then do let ok ← isTrue c cenv (eval c cenv); pure (ForInStep.yield ok) else pure (ForInStep.yield r)) (fun ok s₃ => ok = pz i ∧ Keeps s₂ s₃) E' s₂
  elt : ∀ (A' : Around) E' i v (s₂ : Shared) m₂, A'.handled = none → A'.depth ≤ D → A'.units ≤ U → P i v → pz i = true → s₂.heap.Ns cenv.locals m₂ → m₂ x = some v → Inv s₂.heap → St₀ (i + 1) s₂.heap →
    wpAny (model prog w) A' (eval elt cenv) (fun y s₃ => F i y s₃.heap ∧ Keeps s₂ s₃) E' s₂
section
variable {prog : Program} {w : World} {A : Around}
theorem gen_loop {elt iter : Expr} {x : Str} {px : Pos} {ifs : List Expr} {scope : Scope} {pos : Pos} {I : Addr} {ow : Addr → Prop} {fp wr : List Addr} {n₀ : Nat} {P : Nat → Value → Prop} {St₀ : Nat → Heap → Prop} {cenv : Env} {Inv : Heap → Prop}
    (hh : A.handled = none) (W₀ : ∀ A' : Around, A'.handled = none → Walks prog w A' I fp wr n₀ P St₀) (pz : Nat → Bool) (F : Nat → Value → Heap → Prop)
    (hx : cenv.kindOf x = some .local) (hp : (cenv.scope.kind == .class || (cenv.scope.kind == .module && cenv.locals != cenv.globals)) = false)
    (hco : cenv.scope.isCoroutine = false) (hCf : cenv.locals ∉ fp) (hCo : ¬ ow cenv.locals) (hof : ∀ b ∈ fp, ¬ ow b)
    (hInv : ∀ h h', Inv h → (∀ b o, b ≠ cenv.locals → b ∉ wr → ¬ ow b → h.get? b = some o → h'.get? b = some o) → Inv h')
    (hq : QG prog w cenv x ifs elt P St₀ pz F Inv (A.depth + 1) (A.units + 3)) :
    ∀ (k i : Nat) (s₀ s : Shared) (m : Str → Option Value), n₀ - i = k → i ≤ n₀ → St₀ i s.heap → s.heap.Ns cenv.locals m → GenSince cenv.locals wr s₀ s → Inv s.heap →
      Seg (model prog w) A (fun n s₀ r s₁ => r = .ok .next ∧ (n = 0 ∧ GenSince cenv.locals wr s₀ s₁)) (gp cenv.locals ow wr pz n₀ F) (passing pz n₀ i).length s₀
        (.compLoop (.GeneratorExp elt [⟨.Name x px, iter, ifs, 0⟩] scope pos) 0 (.ref I) .none cenv)
        ((model prog w).den (.compLoop (.GeneratorExp elt [⟨.Name x px, iter, ifs, 0⟩] scope pos) 0 (.ref I) .none cenv)) [] s := by
  have hh' : (A.over (.compLoop (.GeneratorExp elt [⟨.Name x px, iter, ifs, 0⟩] scope pos) 0 (.ref I) .none cenv) []).handled = none := hh
  have hD : (A.over (.compLoop (.GeneratorExp elt [⟨.Name x px, iter, ifs, 0⟩] scope pos) 0 (.ref I) .none cenv) []).depth ≤ A.depth + 1 := Nat.le_of_eq rfl
  have hU : (A.over (.compLoop (.GeneratorExp elt [⟨.Name x px, iter, ifs, 0⟩] scope pos) 0 (.ref I) .none cenv) []).units ≤ A.units + 3 := Nat.le_of_eq rfl
  have hCw : cenv.locals ∉ wr := fun h => hCf ((W₀ A hh).sub _ h)
  intro k
  induction k with
  | zero =>
    intro i s₀ s m hk hi hst hn hsince hI
    obtain rfl : i = n₀ := by omega
    show Seg _ A _ _ _ s₀ _ ((compTurn (.GeneratorExp elt [⟨.Name x px, iter, ifs, 0⟩] scope pos) 0 (.ref I) .none cenv).onRaise (leaving cenv)) [] s
    rw [compTurn_gen, Sem.onRaise_eq_wrap]
    refine seg_bind_wrap (wpAny_standAt ?_)
    refine seg_bind_wrap ((W₀ _ hh').done s _ _ hst fun h' tk hk' => ?_)
    exact seg_end (.ok .next) ⟨rfl, by rw [passing_end]; rfl, hsince.step fun b o _ hw e => hk' b o hw e⟩
  | succ k ih =>
    intro i s₀ s m hk hi hst hn hsince hI
    have hlt : i < n₀ := by omega
    show Seg _ A _ _ _ s₀ _ ((compTurn (.GeneratorExp elt [⟨.Name x px, iter, ifs, 0⟩] scope pos) 0 (.ref I) .none cenv).onRaise (leaving cenv)) [] s
    rw [compTurn_gen, Sem.onRaise_eq_wrap]
    refine seg_bind_wrap (wpAny_standAt ?_)
    refine seg_bind_wrap ((W₀ _ hh').item i s _ _ hlt hst fun v h₁ tk₁ hPv hst₁ hk₁ => ?_)
    refine seg_bind_wrap (wpAny_of_eq (rfl : letOwnedTupleGo (.Name x px) (.ref I) v = pure ()) ?_)
    refine seg_bind_wrap (wpAny_assign_Name (wpAny_storeName_local hx (hn.at' fun o e => hk₁ _ o hCw e) (fun h₂ hn₂ hs₂ => ?_) hp))
    have up₂ : ∀ b o, b ≠ cenv.locals → b ∉ wr → s.heap.get? b = some o → h₂.get? b = some o := fun b o hbC hbw e => hs₂.extBut b o hbC (hk₁ b o hbw e)
    have hst₂ : St₀ (i + 1) h₂ := (W₀ A hh).frame _ _ _ hst₁ fun b hb o e => hs₂.extBut b o (fun h => hCf (h ▸ hb)) e
    have hI₂ : Inv h₂ := hInv _ _ hI fun b o h1 h2 _ e => up₂ b o h1 h2 e
    refine seg_bind_wrap (wpAny_mono (hq.tests _ _ i v _ _ hh' hD hU hPv hn₂ (by simp) hI₂ hst₂) (fun ok s₃ h₃ => ?_) fun _ _ e => e)
    obtain ⟨rfl, h₃, tk₃, rfl, hk₃⟩ := h₃
    have hst₃ : St₀ (i + 1) h₃ := (W₀ A hh).frame _ _ _ hst₂ fun b _ o e => hk₃ b o e
    have hn₃ := hn₂.keeps hk₃
    have hI₃ : Inv h₃ := hInv _ _ hI₂ fun b o _ _ _ e => hk₃ b o e
    have hsince₃ : GenSince cenv.locals wr s₀ { s with heap := h₃, toks := tk₃ } := hsince.step fun b o hbC hbw e => hk₃ b o (up₂ b o hbC hbw e)
    cases hpz : pz i with
    | false =>
      rw [passing_false hlt hpz]
      simp only [Bool.false_eq_true, if_false]
      exact seg_again rfl (ih (i + 1) s₀ _ _ (by omega) hlt hst₃ hn₃ hsince₃ hI₃)
    | true =>
      rw [passing_true hlt hpz, List.length_cons]
      simp only [if_true]
      have hy : ∀ v, yieldOut cenv v = yieldValue v := fun v => by simp only [yieldOut, hco, Bool.false_eq_true, if_false]
      simp only [hy]
      rw [Sem.bind_eq_wrap', Sem.bind_eq_wrap', Sem.wrap_wrap, Sem.wrap_wrap]
      refine seg_wrap (wpAny_mono (hq.elt _ _ i v _ _ hh' hD hU hPv hpz hn₃ (by simp) hI₃ hst₃) (fun y s₄ h₄ => ?_) fun _ _ e => e)
      obtain ⟨hFy, h₄, tk₄, rfl, hk₄⟩ := h₄
      refine seg_at (seg_yield rfl rfl rfl ⟨⟨i, passing_here hlt hpz, hFy⟩, hsince₃.step fun b o _ _ e => hk₄ b o e, fun s'' hal => ?_⟩)
      refine seg_again rfl (ih (i + 1) s'' s'' _ (by omega) hlt ((W₀ A hh).frame _ _ _ hst₃ fun b hb o e => hal b (hof b hb) o (hk₄ b o e))
        ((hn₃.keeps hk₄).at' fun o e => hal _ hCo o e) (GenSince.refl _ _ _) (hInv _ _ hI₃ fun b o _ _ h3 e => hal b h3 o (hk₄ b o e)))
theorem gen_start {elt iter : Expr} {x : Str} {px : Pos} {ifs : List Expr} {scope : Scope} {pos : Pos} {I : Addr} {ow : Addr → Prop} {fp wr : List Addr} {n₀ : Nat} {P : Nat → Value → Prop} {St₀ : Nat → Heap → Prop} {cenv : Env} {Inv : Heap → Prop}
    (hh : A.handled = none) (W₀ : ∀ A' : Around, A'.handled = none → Walks prog w A' I fp wr n₀ P St₀) (pz : Nat → Bool) (F : Nat → Value → Heap → Prop)
    (hx : cenv.kindOf x = some .local) (hp : (cenv.scope.kind == .class || (cenv.scope.kind == .module && cenv.locals != cenv.globals)) = false)
    (hco : cenv.scope.isCoroutine = false) (hCf : cenv.locals ∉ fp) (hCo : ¬ ow cenv.locals) (hof : ∀ b ∈ fp, ¬ ow b)
    (hInv : ∀ h h', Inv h → (∀ b o, b ≠ cenv.locals → b ∉ wr → ¬ ow b → h.get? b = some o → h'.get? b = some o) → Inv h')
    (hq : QG prog w cenv x ifs elt P St₀ pz F Inv (A.depth + 1) (A.units + 3))
    (s₀ s : Shared) (m : Str → Option Value) (hst : St₀ 0 s.heap) (hn : s.heap.Ns cenv.locals m) (hsince : GenSince cenv.locals wr s₀ s) (hI : Inv s.heap) :
    Seg (model prog w) A (fun n s₀ r s₁ => r = .ok .next ∧ (n = 0 ∧ GenSince cenv.locals wr s₀ s₁)) (gp cenv.locals ow wr pz n₀ F) (passing pz n₀ 0).length s₀
      (.compStart (.GeneratorExp elt [⟨.Name x px, iter, ifs, 0⟩] scope pos) 0 (.ref I) .none cenv)
      ((model prog w).den (.compStart (.GeneratorExp elt [⟨.Name x px, iter, ifs, 0⟩] scope pos) 0 (.ref I) .none cenv)) [] s := by
  have hh' : (A.over (.compStart (.GeneratorExp elt [⟨.Name x px, iter, ifs, 0⟩] scope pos) 0 (.ref I) .none cenv) []).handled = none := hh
  have loop := gen_loop (iter := iter) (px := px) (scope := scope) (pos := pos) hh W₀ pz F hx hp hco hCf hCo hof hInv hq n₀ 0 s₀ s m (Nat.sub_zero _) (Nat.zero_le _) hst hn hsince hI
  show Seg _ A _ _ _ s₀ _ ((compStart (.GeneratorExp elt [⟨.Name x px, iter, ifs, 0⟩] scope pos) 0 (.ref I) .none cenv).onRaise (leaving cenv)) [] s
  unfold compStart
  rw [Sem.onRaise_eq_wrap]
  show Seg _ A _ _ _ s₀ _ ((ask >>= _).wrap _ _ _ _) [] s
  refine seg_bind_wrap (wpAny_askSetting ?_)
  split
  · exact seg_again rfl loop
  · first
      | exact seg_bind_wrap (wpAny_rule (seg_bind_wrap (wpAny_standAt (seg_bind_wrap ((W₀ _ hh').self 0 s _ _ hst (seg_again rfl loop))))))
      | (refine seg_bind_wrap (wpAny_rule ?_); show Seg _ A _ _ _ s₀ _ ((standAt iter.pos >>= _).wrap _ _ _ _) [] s; exact seg_bind_wrap (wpAny_standAt (seg_bind_wrap ((W₀ _ hh').self 0 s _ _ hst (seg_again rfl loop)))))
/-- a generator that has given j values -/
noncomputable def GIs (prog : Program) (w : World) (A : Around) (a : Addr) (g : Nat) (C : Addr) (ow : Addr → Prop) (wr : List Addr) (pz : Nat → Bool) (n₀ : Nat) (F : Nat → Value → Heap → Prop) (j : Nat) (s : Shared) : Prop :=
  s.heap.IsGen a g ∧ s.heap.NoLimit ∧ ∃ gs, s.gens[g]? = some gs ∧ ∀ s'' : Shared, (∀ b, ¬ ow b → ∀ o, s.heap.get? b = some o → s''.heap.get? b = some o) →
    gs.Goes (model prog w) A.in1 (fun n s₀ r s₁ => r = .ok .next ∧ (n = 0 ∧ GenSince C wr s₀ s₁)) (gp C ow wr pz n₀ F) ((passing pz n₀ 0).length - j) (.send .none) s''
theorem GIs.keeps {a C : Addr} {g : Nat} {ow : Addr → Prop} {wr : List Addr} {pz : Nat → Bool} {n₀ j : Nat} {F : Nat → Value → Heap → Prop} {s : Shared} {h' : Heap} {d : Drawn} {tk : Nat} {os : _} (G : GIs prog w A a g C ow wr pz n₀ F j s) (ha : ¬ ow a) (hc : ¬ ow cStatics)
    (hk : ∀ b, ¬ ow b → ∀ o, s.heap.get? b = some o → h'.get? b = some o) : GIs prog w A a g C ow wr pz n₀ F j ⟨h', s.gens, d, tk, os⟩ := by
  obtain ⟨⟨o, nm, qn, ho, r⟩, ⟨mc, hns, hnn⟩, gs, hgs, hgo⟩ := G
  exact ⟨⟨o, nm, qn, hk a ha o ho, r⟩, ⟨mc, hns.at' fun o e => hk cStatics hc o e, hnn⟩, gs, hgs, fun s'' hal => hgo s'' fun b hb o e => hal b hb o (hk b hb o e)⟩
theorem GIs.next {a C : Addr} {g : Nat} {ow : Addr → Prop} {wr : List Addr} {pz : Nat → Bool} {n₀ j : Nat} {F : Nat → Value → Heap → Prop} {s : Shared} {Q : Option Value → Shared → Prop} {E : Value → Shared → Prop}
    (G : GIs prog w A a g C ow wr pz n₀ F j s) (hh : A.handled = none) (hroom : A.depth < recursionLimit) (haC : a ≠ C) (haw : a ∉ wr) (hcC : cStatics ≠ C) (hcw : cStatics ∉ wr) (hj : j < (passing pz n₀ 0).length)
    (hQ : ∀ v h' tk gs', (∃ i, (passing pz n₀ 0)[j]? = some i ∧ F i v h') → (∀ b o, b ≠ C → b ∉ wr → s.heap.get? b = some o → h'.get? b = some o) →
      GIs prog w A a g C ow wr pz n₀ F (j + 1) ({ (s.setGen g .running) with heap := h', toks := tk }.setGen g gs') → Q (some v) ({ (s.setGen g .running) with heap := h', toks := tk }.setGen g gs')) :
    wpAny (model prog w) A (pyNext (.ref a)) Q E s := by
  obtain ⟨hg, hl, gs, hgs, hgo⟩ := G
  obtain ⟨m, hm⟩ : ∃ m, (passing pz n₀ 0).length - j = m + 1 := ⟨(passing pz n₀ 0).length - j - 1, by omega⟩
  rw [hm] at hgo
  refine wpAny_pyNext_genexp (P := fun n s₀ s₁ => n = 0 ∧ GenSince C wr s₀ s₁) hh hl hroom hg hgs (hgo _ fun _ _ _ e => e) (fun v s₁ gs' hv => ?_) (fun s₁ hp h' hk => ?_)
  · obtain ⟨⟨i, hi, hF⟩, ⟨h₁, tk₁, rfl, hk₁⟩, hkap⟩ := hv
    have hidx : (passing pz n₀ 0).length - 1 - (m + 1 - 1) = j := by omega
    rw [hidx] at hi
    refine hQ v h₁ tk₁ gs' ⟨i, hi, hF⟩ hk₁ ⟨let ⟨o, nm, qn, ho, r⟩ := hg; ⟨o, nm, qn, hk₁ a o haC haw ho, r⟩, (let ⟨mc, hns, hnn⟩ := hl; ⟨mc, hns.at' fun o e => hk₁ cStatics o hcC hcw e, hnn⟩), gs', setGen_self (gs := .running) (setGen_self hgs), fun s'' hal => ?_⟩
    have e : (passing pz n₀ 0).length - (j + 1) = m := by omega
    rw [e]
    exact hkap s'' hal
  · exact absurd hp.1 (Nat.succ_ne_zero m)
theorem GIs.last {a C : Addr} {g : Nat} {ow : Addr → Prop} {wr : List Addr} {pz : Nat → Bool} {n₀ : Nat} {F : Nat → Value → Heap → Prop} {s : Shared} {Q : Option Value → Shared → Prop} {E : Value → Shared → Prop}
    (G : GIs prog w A a g C ow wr pz n₀ F (passing pz n₀ 0).length s) (hh : A.handled = none) (hroom : A.depth < recursionLimit)
    (hQ : ∀ h' tk, (∀ b o, b ≠ C → b ∉ wr → s.heap.get? b = some o → h'.get? b = some o) → Q none ({ (s.setGen g .running).setGen g .finished with heap := h', toks := tk })) :
    wpAny (model prog w) A (pyNext (.ref a)) Q E s := by
  obtain ⟨hg, hl, gs, hgs, hgo⟩ := G
  rw [Nat.sub_self] at hgo
  refine wpAny_pyNext_genexp (P := fun n s₀ s₁ => n = 0 ∧ GenSince C wr s₀ s₁) hh hl hroom hg hgs (hgo _ fun _ _ _ e => e) (fun v s₁ gs' hv => ?_) (fun s₁ hp h' hk => ?_)
  · obtain ⟨_, _, hkap⟩ := hv
    exact False.elim (hkap s₁ fun _ _ _ e => e)
  · obtain ⟨_, h₁, tk₁, rfl, hk₁⟩ := hp
    exact hQ h' tk₁ fun b o h1 h2 e => hk b o (hk₁ b o h1 h2 e)
theorem GIs.fresh {elt iter : Expr} {x : Str} {px : Pos} {ifs : List Expr} {scope : Scope} {pos : Pos} {I a : Addr} {g : Nat} {ow : Addr → Prop} {fp wr : List Addr} {n₀ : Nat} {P : Nat → Value → Prop} {St₀ : Nat → Heap → Prop} {cenv : Env} {Inv : Heap → Prop}
    (hh : A.handled = none) (W₀ : ∀ A' : Around, A'.handled = none → Walks prog w A' I fp wr n₀ P St₀) (pz : Nat → Bool) (F : Nat → Value → Heap → Prop)
    (hx : cenv.kindOf x = some .local) (hp : (cenv.scope.kind == .class || (cenv.scope.kind == .module && cenv.locals != cenv.globals)) = false)
    (hco : cenv.scope.isCoroutine = false) (hCf : cenv.locals ∉ fp) (hCo : ¬ ow cenv.locals) (hof : ∀ b ∈ fp, ¬ ow b)
    (hInv : ∀ h h', Inv h → (∀ b o, b ≠ cenv.locals → b ∉ wr → ¬ ow b → h.get? b = some o → h'.get? b = some o) → Inv h')
    (hq : QG prog w cenv x ifs elt P St₀ pz F Inv (A.depth + 1) (A.units + 4)) {s : Shared} {m : Str → Option Value}
    (hg : s.heap.IsGen a g) (hgs : s.gens[g]? = some (.fresh (.compStart (.GeneratorExp elt [⟨.Name x px, iter, ifs, 0⟩] scope pos) 0 (.ref I) .none cenv)))
    (hst : St₀ 0 s.heap) (hn : s.heap.Ns cenv.locals m) (hl : s.heap.NoLimit) (hI : Inv s.heap) : GIs prog w A a g cenv.locals ow wr pz n₀ F 0 s :=
  ⟨hg, hl, _, hgs, fun s'' hal => ⟨rfl, gen_start (A := A.in1) hh W₀ pz F hx hp hco hCf hCo hof hInv hq s'' s'' m ((W₀ A hh).frame _ _ _ hst fun b hb o e => hal b (hof b hb) o e)
    (hn.at' fun o e => hal _ hCo o e) (GenSince.refl _ _ _) (hInv _ _ hI fun b o _ _ h3 e => hal b h3 o e)⟩⟩
end
end
section
theorem fresh_Gr : True := by w_top off; trivial
/-- what has come after a generator -/
noncomputable def young (h₃ : Heap) : Addr → Prop := fun b => h₃.get? b = none ∧ b ≠ h₃.objs.size ∧ b ≠ h₃.objs.size + 1
theorem gen_make {prog : Program} {w : World} {A : Around} {E : Value → Shared → Prop} {s : Shared} {c P : Addr} {env : Env} {elt iter : Expr} {x : Str} {px : Pos} {ifs : List Expr} {scope : Scope} {cl : List (Str × Addr)} {pos : Pos} {Q : Value → Shared → Prop}
    (hcode : env.code = .ref c) (hh : A.handled = none) (hco : scope.isCoroutine = false) (hclos : closureFor scope env = pure cl) (hcell : ∀ y ∈ scope.names, y.2 ≠ .cell) (h0 : scope.names.lookup (".0" : Str) = some NameKind.local)
    (hx : scope.names.lookup x = some .local) (hkind : scope.kind = .function) (hroom : A.depth < recursionLimit)
    (h : wpAny (model prog w) A (eval iter env) (fun xv s₁ => wpAny (model prog w) A (pyIter xv) (fun it s₂ => s₂.heap.NoLimit ∧ ∃ ps bm ob mg, s₂.heap.IsCode c P ps ∧ s₂.heap.TableAt c P ps ∧ BMod s₂.heap env.globals mg bm ob ∧
      ∀ (code : Value) (h₃ : Heap), Heap.ExtBut P s₂.heap h₃ → s₂.heap.objs.size ≤ h₃.objs.size → (∃ ps', h₃.IsCode c P ps' ∧ h₃.TableAt c P ps') →
        ∃ I fp wr n₀ Pi St₀ pz F Inv D U, it = .ref I ∧ (∀ A' : Around, A'.handled = none → Walks prog w A' I fp wr n₀ Pi St₀) ∧ St₀ 0 h₃ ∧ (∀ b ∈ fp, ∃ o, h₃.get? b = some o) ∧
          (∀ h h', Inv h → (∀ b o, b ≠ h₃.objs.size → b ∉ wr → ¬ young h₃ b → h.get? b = some o → h'.get? b = some o) → Inv h') ∧ (∀ h', (∀ b o, h₃.get? b = some o → h'.get? b = some o) → Inv h') ∧
          QG prog w (genEnv scope cl h₃.objs.size code builtinsNs env) x ifs elt Pi St₀ pz F Inv (D + 1) (U + 4) ∧
          ∀ h₅ tk gs, gs.bare = true → h₅.objs.size = h₃.objs.size + 2 → (∃ o, h₅.get? h₃.objs.size = some o) → (∀ b o, h₃.get? b = some o → h₅.get? b = some o) →
            (∀ A' : Around, A'.handled = none → A'.depth ≤ D → A'.units ≤ U → GIs prog w A' (h₃.objs.size + 1) s₂.gens.size h₃.objs.size (young h₃) wr pz n₀ F 0 { s₂ with gens := s₂.gens.push gs, toks := tk, heap := h₅ }) →
            Q (.ref (h₃.objs.size + 1)) { s₂ with gens := s₂.gens.push gs, toks := tk, heap := h₅ }) E s₁) E s)
    (hs : ∀ x, genFold iter env x = pure x) :
    wpAny (model prog w) A (eval (.GeneratorExp elt [⟨.Name x px, iter, ifs, 0⟩] scope pos) env) Q E s := by
  refine wpAny_GeneratorExp_make hco hclos hcell h0 hkind hroom (wpAny_mono h (fun xv s₁ h₁ => wpAny_mono h₁ (fun it s₂ h₂ => ?_) fun _ _ e => e) fun _ _ e => e) hs
  obtain ⟨hl, ps, bm, ob, mg, C, T, M, hq⟩ := h₂
  have hcP : cStatics ≠ P := fun e => by
    obtain ⟨_, hns, _⟩ := hl
    obtain ⟨o, es, ep, ho, hd, _⟩ := hns
    rw [e, T.2] at ho; cases ho; cases hd
  refine ⟨hl, ?_⟩
  have key : ∀ (code : Value) (h₃ : Heap) (tk₃ : Nat), Heap.ExtBut P s₂.heap h₃ → s₂.heap.objs.size ≤ h₃.objs.size → (∃ ps', h₃.IsCode c P ps' ∧ h₃.TableAt c P ps') →
      wpAny (model prog w) A (builtinsFor env.globals env.builtins) (fun bi s₄ => ∀ h', h'.Ns s₄.heap.objs.size (fun y => if y = ".0" then some it else none) → Heap.SameBut s₄.heap.objs.size (s₄.heap.push { cls := .type "frame", data := .dict #[] }) h' →
          Q (.ref h'.objs.size) { s₄ with
            gens := s₄.gens.push (.fresh (.compStart (.GeneratorExp elt [⟨.Name x px, iter, ifs, 0⟩] scope pos) 0 it .none (genEnv scope cl s₄.heap.objs.size code bi env))),
            toks := s₄.toks + 1 + 1 + 1,
            heap := h'.push { cls := .type "generator", data := .fields #[.int s₄.gens.size 0, .str "<genexpr>" (s₄.toks + 1), .str (env.qual ++ "<genexpr>") (s₄.toks + 1 + 1)] } }) E { s₂ with heap := h₃, toks := tk₃ } := by
    intro code h₃ tk₃ hx₃ hsz₃ hps
    have M₃ : BMod h₃ env.globals mg bm ob := M.extBut T hx₃
    have hl₃ : h₃.NoLimit := hl.extBut hx₃ hcP
    refine wpAny_builtinsFor M₃.ns M₃.name M₃.ne M₃.obj M₃.cls M₃.dict M₃.data ?_
    obtain ⟨I, fp, wr, n₀, Pi, St₀, pz, F, Inv, D, U, rfl, W₀, hst, hfp, hInv, hI, hqg, hQ⟩ := hq code h₃ hx₃ hsz₃ hps
    intro h' hn' hs'
    have hsz : h'.objs.size = h₃.objs.size + 1 := by rw [hs'.1, Heap.size_push]
    have keep' : ∀ b o, h₃.get? b = some o → h'.get? b = some o := fun b o e => hs'.extBut b o (Nat.ne_of_lt (Heap.lt_size e)) (Heap.get?_push_of_some _ e)
    have keep₅ : ∀ b o, h₃.get? b = some o → (h'.push { cls := .type "generator", data := .fields #[.int s₂.gens.size 0, .str "<genexpr>" (tk₃ + 1), .str (env.qual ++ "<genexpr>") (tk₃ + 1 + 1)] }).get? b = some o :=
      fun b o e => Heap.get?_push_of_some _ (keep' b o e)
    have hclt : cStatics < h₃.objs.size := let ⟨_, hn, _⟩ := hl₃; hn.lt
    have hg : (h'.push { cls := .type "generator", data := .fields #[.int s₂.gens.size 0, .str "<genexpr>" (tk₃ + 1), .str (env.qual ++ "<genexpr>") (tk₃ + 1 + 1)] }).IsGen (h₃.objs.size + 1) s₂.gens.size := by
      rw [← hsz]; exact ⟨_, _, _, Heap.get?_push_size _ rfl, rfl, rfl, rfl⟩
    show Q (.ref h'.objs.size) _
    rw [hsz]
    refine hQ _ _ _ rfl (by rw [Heap.size_push, hsz]) (let ⟨o, _, _, e, _⟩ := hn'; ⟨o, Heap.get?_push_of_some _ e⟩) keep₅ fun A' hA hD hU => ?_
    refine GIs.fresh (A := A') (cenv := genEnv scope cl h₃.objs.size code builtinsNs env) (m := fun y => if y = ".0" then some (.ref I) else none) hA W₀ pz F hx (by simp [genEnv, hkind]) hco
      (fun hm => let ⟨_, e⟩ := hfp _ hm; Nat.lt_irrefl _ (Heap.lt_size e)) (fun q => q.2.1 rfl) (fun b hb q => by obtain ⟨_, e⟩ := hfp b hb; rw [q.1] at e; cases e) hInv
      ⟨fun A'' E' i v s₂ m₂ e1 e2 e3 => hqg.tests A'' E' i v s₂ m₂ e1 (Nat.le_trans e2 (Nat.succ_le_succ hD)) (Nat.le_trans e3 (Nat.add_le_add_right hU 4)), fun A'' E' i v s₂ m₂ e1 e2 e3 => hqg.elt A'' E' i v s₂ m₂ e1 (Nat.le_trans e2 (Nat.succ_le_succ hD)) (Nat.le_trans e3 (Nat.add_le_add_right hU 4))⟩
      hg (Array.getElem?_push_size ..) ((W₀ A hh).frame _ _ _ hst fun b _ o e => keep₅ b o e) (hn'.push _) (hl₃.keeps keep₅) (hI _ keep₅)
  cases hnf : codeAmong pos ps.toList with
  | none => exact wpAny_genexprCodeX hcode C T hnf fun c' h₃ tk₃ hx₃ hge hlt hcode₃ _ htab₃ _ => key _ h₃ tk₃ hx₃ (Nat.le_trans hge (Nat.le_of_lt hlt)) ⟨_, hcode₃, htab₃⟩
  | some c' => exact wpAny_genexprCode_hit hcode C hnf (key c' s₂.heap s₂.toks (fun _ _ _ e => e) (Nat.le_refl _) ⟨_, C, T⟩)
end
section
theorem fresh_Ln : True := by w_top off; trivial
open PySem.Builtin PySem.Builtin.List PySem.W.X
section
variable {prog : Program} {w : World} {A : Around} {E : Value → Shared → Prop} {s : Shared} {c a : Addr} {g : Nat}
/-- from a generator: room is made, then the loop -/
theorem extend_gen {d : Addr} {Q : Fin → Shared → Prop} (H : LsD s.heap c #[] d) (hg : s.heap.IsGen a g) (hca : c ≠ a)
    (h : ∀ h', Heap.SameBut c s.heap h' → LsD h' c #[] d → Q (.again (.builtin "list.extend.loop" ⟨[.ref c, .ref a, .none], []⟩)) { s with heap := h' }) : wpAny (model prog w) A (listExtendWith (.ref c) (.ref a) .none) Q E s := by
  unfold listExtendWith
  refine wpAny_bind (wpAny_typeOf hg.typeIs ?_)
  have h1 : listSameRef (.ref c) (.ref a) = false := by simp [listSameRef, hca]
  have h2 : (Value.type "generator" == Value.type "list") = false := by decide
  have h3 : (Value.type "generator" == Value.type "tuple") = false := by decide
  simp only [h1, h2, h3, Bool.or_false, Bool.false_eq_true, if_false]
  refine wpAny_bind (wpAny_pyIter_gen hg ?_)
  refine wpAny_bind (wpAny_holding ?_)
  unfold listLengthHint
  refine wpAny_bind (wpAny_specialOf hg.typeIs F.gen_no_len ?_)
  show wpAny _ _ (specialOf (Value.ref a) (Str.ofString "__length_hint__") >>= _) _ _ _
  refine wpAny_bind (wpAny_specialOf hg.typeIs F.gen_no_hint ?_)
  refine wpAny_pure ?_
  show wpAny _ _ (rule "list.extend.makes-room" >>= fun _ => listTouch (.ref c) >>= fun _ => again (.builtin "list.extend.loop" ⟨[.ref c, .ref a, .none], []⟩)) _ _ _
  refine wpAny_bind (wpAny_rule ?_)
  refine wpAny_bind ?_
  show wpAny _ _ (listUpdate (.ref c) (·.push .none) >>= fun _ => listUpdate (.ref c) (·.pop)) _ _ _
  refine wpAny_bind (ls_upd H (by simp) (by simp) fun h1' hs1 H1 => ?_)
  refine ls_upd H1 (by simp) (by simp) fun h2' hs2 H2 => ?_
  exact wpAny_pure (h h2' (hs1.trans hs2) (by simpa using H2))
end
end
section
theorem fresh_Lg2 : True := by w_top off; trivial
open PySem.Builtin PySem.Builtin.List PySem.W.X
theorem ls_of_gen {w : World} {A : Around} {s : Shared} {Q E : Value → Shared → Prop} {a C : Addr} {g n₀ D U : Nat} {ow : Addr → Prop} {wr : List Addr} {pz : Nat → Bool} {F : Nat → Value → Heap → Prop} (X : (KK w.params).In s.heap) (hh : A.handled = none)
    (G : ∀ A' : Around, A'.handled = none → A'.depth ≤ D → A'.units ≤ U → GIs PySem.Challenge.pw_be0022_01 w A' a g C ow wr pz n₀ F 0 s)
    (how : ∀ b, s.heap.get? b = none → ow b) (ha : ¬ ow a) (hcs : ¬ ow cStatics) (haC : a ≠ C) (haw : a ∉ wr) (hcC : cStatics ≠ C) (hcw : cStatics ∉ wr)
    (hroom : A.depth + 1 < recursionLimit) (hD : (A.under (.builtin "type.__call__" ⟨[.ref 474, .ref a], []⟩)).in1.depth ≤ D) (hU : (A.under (.builtin "type.__call__" ⟨[.ref 474, .ref a], []⟩)).in1.units ≤ U) (hroom' : (A.under (.builtin "type.__call__" ⟨[.ref 474, .ref a], []⟩)).in1.depth < recursionLimit) (hn : (passing pz n₀ 0).length ≤ 100000)
    (Cex : ∃ o, s.heap.get? C = some o) (Wex : ∀ b ∈ wr, ∃ o, s.heap.get? b = some o)
    (hF : ∀ i v h h' c vs, F i v h → LsAt h c vs → (∀ b o, b ≠ C → b ∉ wr → b ≠ c → h.get? b = some o → h'.get? b = some o) → F i v h')
    (hret : ∀ c h' tk gs (ys : List Value), LsAt h' c ys.toArray → s.heap.get? c = none → (∀ b o, b ≠ C → b ∉ wr → s.heap.get? b = some o → h'.get? b = some o) → ys.length = (passing pz n₀ 0).length →
      (∀ (j : Nat) (v : Value), ys[j]? = some v → ∃ i, (passing pz n₀ 0)[j]? = some i ∧ F i v h') → GenOnly g s.gens gs → gs[g]? = some .finished → Q (.ref c) { s with heap := h', toks := tk, gens := gs }) :
    wpAny (model PySem.Challenge.pw_be0022_01 w) A (call (.ref 474) [.ref a]) Q E s := by
  have G0 := (G { A with depth := 0, units := 0 } hh (Nat.zero_le _) (Nat.zero_le _)).1
  refine wpAny_call (make_ls X fun c d h' tk k H hc hdn => ?_)
  have hca : c ≠ a := fun q => by obtain ⟨o, nm, qn, e, _⟩ := G0; rw [← q, hc] at e; cases e
  have hcC' : c ≠ C := fun q => by obtain ⟨o, e⟩ := Cex; rw [← q, hc] at e; cases e
  have hcw' : c ∉ wr := fun q => by obtain ⟨o, e⟩ := Wex c q; rw [hc] at e; cases e
  have hdC : d ≠ C := fun q => by obtain ⟨o, e⟩ := Cex; rw [← q, hdn] at e; cases e
  have hdw : d ∉ wr := fun q => by obtain ⟨o, e⟩ := Wex d q; rw [hdn] at e; cases e
  have hg : h'.IsGen a g := by obtain ⟨o, nm, qn, e, r⟩ := G0; exact ⟨o, nm, qn, k _ _ e, r⟩
  refine extend_gen H hg hca fun h2 hs H2 => ⟨q_ext _, ?_⟩
  have k2 : ∀ b o, s.heap.get? b = some o → h2.get? b = some o := fun b o e => hs.extBut b o (fun q => by rw [q, hc] at e; cases e) (k b o e)
  have A1h : (A.under (.builtin "type.__call__" ⟨[.ref 474, .ref a], []⟩)).in1.handled = none := hh
  have J0 := G _ A1h hD hU
  have J0' : GIs PySem.Challenge.pw_be0022_01 w (A.under (.builtin "type.__call__" ⟨[.ref 474, .ref a], []⟩)).in1 a g C ow wr pz n₀ F 0 { s with heap := h2, toks := tk } :=
    J0.keeps ha hcs fun b _ o e => k2 b o e
  refine ext_loop (A := A.under (.builtin "type.__call__" ⟨[.ref 474, .ref a], []⟩)) (it := .ref a) (n := (passing pz n₀ 0).length) hn
    (fun (i : Nat) (ys : List Value) (s' : Shared) => (i ≤ (passing pz n₀ 0).length → GIs PySem.Challenge.pw_be0022_01 w (A.under (.builtin "type.__call__" ⟨[.ref 474, .ref a], []⟩)).in1 a g C ow wr pz n₀ F i s') ∧
      (∃ ht tk gs, s' = { s with heap := ht, toks := tk, gens := gs } ∧ GenOnly g s.gens gs ∧ (i = (passing pz n₀ 0).length + 1 → gs[g]? = some .finished)) ∧
      ys.length = min i (passing pz n₀ 0).length ∧ (∀ b o, b ≠ C → b ∉ wr → s.heap.get? b = some o → s'.heap.get? b = some o) ∧
      (∀ (j : Nat) (v : Value), ys[j]? = some v → ∃ i, (passing pz n₀ 0)[j]? = some i ∧ F i v s'.heap)) ?_ ?_ ?_ ?_ _ 0 [] _ rfl (Nat.zero_le _) rfl ?_ H2
  · rintro i ys ys' s' h3 ⟨j1, ⟨ht, tk3, gs, rfl, j2, j3⟩, j5, j6, j7⟩ H3 hs3
    refine ⟨fun q => (j1 q).keeps ha hcs fun b hb o e => hs3.extBut b o (fun q => hb (by rw [q]; exact how c hc)) e, ⟨h3, tk3, gs, rfl, j2, j3⟩, j5,
      fun b o h1 h2' e => hs3.extBut b o (fun q => by rw [q, hc] at e; cases e) (j6 b o h1 h2' e), fun j v q => ?_⟩
    obtain ⟨i', q1, q2⟩ := j7 j v q
    exact ⟨i', q1, hF _ _ _ _ _ _ q2 ⟨_, H3⟩ fun b o _ _ h3' e => hs3.extBut b o h3' e⟩
  · rintro i ys s' Q' E' hi ⟨j1, ⟨ht, tk3, gs, rfl, j2, j3⟩, j5, j6, j7⟩ H3 hQ'
    refine (j1 (Nat.le_of_lt hi)).next A1h hroom' haC haw hcC hcw hi fun v h4 tk4 gs4 hv hk4 G4 => ?_
    have H4 : LsD h4 c ys.toArray d := let ⟨n, e1, e2⟩ := H3; ⟨n, hk4 _ _ hcC' hcw' e1, hk4 _ _ hdC hdw e2⟩
    refine hQ' v _ ⟨fun _ => G4, ⟨h4, tk4, _, rfl, j2.trans ((GenOnly.setGen { s with heap := ht, toks := tk3, gens := gs } g .running).trans (GenOnly.setGen _ g gs4)), fun q => by omega⟩, by rw [List.length_append, j5]; simp; omega, fun b o h1 h2' e => hk4 b o h1 h2' (j6 b o h1 h2' e), fun j v' q => ?_⟩ H4
    rcases Nat.lt_or_ge j ys.length with q1 | q1
    · rw [List.getElem?_append_left q1] at q
      obtain ⟨i', q2, q3⟩ := j7 j v' q
      exact ⟨i', q2, hF _ _ _ _ _ _ q3 ⟨_, H3⟩ fun b o h1 h2' _ e => hk4 b o h1 h2' e⟩
    · rw [List.getElem?_append_right q1] at q
      have : j = i := by
        have := (List.getElem?_eq_some_iff.mp q).1
        simp at this; omega
      subst this
      rw [show j - ys.length = 0 by omega] at q
      simp at q
      subst q
      exact hv
  · rintro ys s' Q' E' ⟨j1, ⟨ht, tk3, gs, rfl, j2, j3⟩, j5, j6, j7⟩ H3 hQ'
    have GG := j1 (Nat.le_refl _)
    have hgs : ∃ x, gs[g]? = some x := let ⟨_, _, x, e, _⟩ := GG; ⟨x, e⟩
    obtain ⟨xg, hgs⟩ := hgs
    refine GG.last A1h hroom' fun h4 tk4 hk4 => ?_
    have H4 : LsD h4 c ys.toArray d := let ⟨n, e1, e2⟩ := H3; ⟨n, hk4 _ _ hcC' hcw' e1, hk4 _ _ hdC hdw e2⟩
    refine hQ' _ ⟨fun q => by omega, ⟨h4, tk4, _, rfl, j2.trans ((GenOnly.setGen { s with heap := ht, toks := tk3, gens := gs } g .running).trans (GenOnly.setGen _ g .finished)), fun _ => setGen_self (gs := .running) (setGen_self (s := { s with heap := ht, toks := tk3, gens := gs }) hgs)⟩, by rw [j5]; omega, fun b o h1 h2' e => hk4 b o h1 h2' (j6 b o h1 h2' e), fun j v q => ?_⟩ H4
    obtain ⟨i', q2, q3⟩ := j7 j v q
    exact ⟨i', q2, hF _ _ _ _ _ _ q3 ⟨_, H3⟩ fun b o h1 h2' _ e => hk4 b o h1 h2' e⟩
  · rintro ys s' ⟨j1, ⟨ht, tk3, gs, rfl, j2, j3⟩, j5, j6, j7⟩ H3
    exact ⟨rfl, hret c ht tk3 gs ys ⟨_, H3⟩ hc j6 (by rw [j5]; omega) j7 j2 (j3 rfl)⟩
  · exact ⟨fun _ => J0', ⟨h2, tk, s.gens, rfl, ⟨rfl, fun _ _ => rfl⟩, fun q => by omega⟩, by simp, fun b o _ _ e => k2 b o e, fun j v q => by simp at q⟩
end
section
theorem fresh_Sp : True := by w_top off; trivial
theorem split10_jn : ∀ ps : List (List Nat), ps ≠ [] → (∀ p ∈ ps, 10 ∉ p) → split10 (jn [10] ps) = ps
  | [], h, _ => absurd rfl h
  | [x], _, h => by rw [jn, split10_one x (h x (.head _))]
  | x :: y :: r, _, h => by
    rw [jn, List.append_assoc]
    show split10 (x ++ 10 :: jn [10] (y :: r)) = _
    rw [split10_seg _ x (h x (.head _)), split10_jn (y :: r) (by simp) fun p q => h p (.tail _ q)]
theorem split_ne (x y : Str) : Txt.split x y ≠ [] := by
  unfold Txt.split
  split
  · simp
  · split
    · simp
    · rw [StrLaws.partsBetween_eq]
      obtain ⟨p, r, e⟩ := StrLaws.partsFrom_ne x y.length 0 (Builtin.Str.occurrences x y 0 x.length (x.length + 1))
      rw [e]; simp
theorem split_txt (out : List Nat) : Txt.split (txt out) (txt [10]) = (split10 out).map txt := by
  have h1 := StrLaws.join_split (txt out) (txt [10])
  have h2 := StrLaws.split_free (txt out) 10
  have h3 := split_ne (txt out) (txt [10])
  rw [show (⟨#[10]⟩ : Str) = txt [10] from rfl] at h2
  generalize Txt.split (txt out) (txt [10]) = ps at h1 h2 h3
  obtain ⟨qs, rfl⟩ : ∃ qs : List (List Nat), ps = qs.map txt := ⟨ps.map cps, by rw [List.map_map]; exact (List.map_id _).symm⟩
  rw [str_join] at h1
  have e : jn [10] qs = out := txt_inj h1
  rw [← e, split10_jn qs (fun q => h3 (by rw [q]; rfl)) fun p hp => h2 (txt p) (List.mem_map_of_mem hp)]
end
section
theorem fresh_Gw : True := by w_top off; trivial
section
variable {prog : Program} {w : World} {A : Around}
theorem GIs.nextQ {a C : Addr} {g : Nat} {ow : Addr → Prop} {wr : List Addr} {pz : Nat → Bool} {n₀ j : Nat} {F : Nat → Value → Heap → Prop} {s : Shared} {Q : Option Value → Shared → Prop} {E : Value → Shared → Prop}
    (G : GIs prog w A a g C ow wr pz n₀ F j s) (hh : A.handled = none) (hroom : A.depth < recursionLimit) (haC : a ≠ C) (haw : a ∉ wr) (hcC : cStatics ≠ C) (hcw : cStatics ∉ wr) (hj : j < (passing pz n₀ 0).length)
    (hQ : ∀ v h' tk gs', gs'.bare = true → (∃ i, (passing pz n₀ 0)[j]? = some i ∧ F i v h') → (∀ b o, b ≠ C → b ∉ wr → s.heap.get? b = some o → h'.get? b = some o) → ({ (s.setGen g .running) with heap := h', toks := tk }.setGen g gs').gens[g]? = some gs' →
      GIs prog w A a g C ow wr pz n₀ F (j + 1) ({ (s.setGen g .running) with heap := h', toks := tk }.setGen g gs') → Q (some v) ({ (s.setGen g .running) with heap := h', toks := tk }.setGen g gs')) :
    wpAny (model prog w) A (pyNext (.ref a)) Q E s := by
  obtain ⟨hg, hl, gs, hgs, hgo⟩ := G
  obtain ⟨m, hm⟩ : ∃ m, (passing pz n₀ 0).length - j = m + 1 := ⟨(passing pz n₀ 0).length - j - 1, by omega⟩
  rw [hm] at hgo
  refine wpAny_pyNext_genexpQ (P := fun n s₀ s₁ => n = 0 ∧ GenSince C wr s₀ s₁) hh hl hroom hg hgs (hgo _ fun _ _ _ e => e) (fun v s₁ gs' hb hv => ?_) (fun s₁ hp h' hk => ?_)
  · obtain ⟨⟨i, hi, hF⟩, ⟨h₁, tk₁, rfl, hk₁⟩, hkap⟩ := hv
    have hidx : (passing pz n₀ 0).length - 1 - (m + 1 - 1) = j := by omega
    rw [hidx] at hi
    refine hQ v h₁ tk₁ gs' hb ⟨i, hi, hF⟩ hk₁ (setGen_self (gs := .running) (setGen_self hgs)) ⟨let ⟨o, nm, qn, ho, r⟩ := hg; ⟨o, nm, qn, hk₁ a o haC haw ho, r⟩, (let ⟨mc, hns, hnn⟩ := hl; ⟨mc, hns.at' fun o e => hk₁ cStatics o hcC hcw e, hnn⟩), gs', setGen_self (gs := .running) (setGen_self hgs), fun s'' hal => ?_⟩
    have e : (passing pz n₀ 0).length - (j + 1) = m := by omega
    rw [e]
    exact hkap s'' hal
  · exact absurd hp.1 (Nat.succ_ne_zero m)
/-- a generator whose values need no heap, as the kit's consumers take it -/
theorem GIs.walksS {a C : Addr} {g : Nat} {ow : Addr → Prop} {wr : List Addr} {pz : Nat → Bool} {n₀ N : Nat} {F : Nat → Value → Prop}
    (hh : A.handled = none) (hroom : A.depth < recursionLimit) (haC : a ≠ C) (haw : a ∉ wr) (hcC : cStatics ≠ C) (hcw : cStatics ∉ wr) (ha : ¬ ow a) (hcs : ¬ ow cStatics)
    (hN : ∀ b : Nat, ¬ ow b → b < N) (hw : ∀ b : Nat, b ∈ wr → b < N) (hC : (C : Nat) < N) :
    WalksS prog w A a (List.range N) (C :: wr) (GenOnlyQ g) (passing pz n₀ 0).length (fun j v => ∃ i, (passing pz n₀ 0)[j]? = some i ∧ F i v) (fun j s => GIs prog w A a g C ow wr pz n₀ (fun i v _ => F i v) j s) where
  sub := fun b hb => List.mem_range.mpr ((List.mem_cons.mp hb).elim (fun e => e ▸ hC) (hw b))
  grefl := fun _ => .inl rfl
  gtrans := fun _ _ _ x y => x.trans y
  frame := fun i s h' tk st _ hk => by
    exact GIs.keeps (d := s.drawn) (tk := tk) (os := s.os) st ha hcs fun b hb o e => hk b (List.mem_range.mpr (hN b hb)) o e
  item := fun i s Q E hi st hQ => by
    refine wpAny_with_toks (Nat.le_refl s.toks) (st.nextQ hh hroom haC haw hcC hcw hi fun v h' tk gs' hb hv hk hg G' ht => ?_)
    exact hQ v _ hv G' ⟨fun b o h1 e => hk b o (fun q => h1 (q ▸ .head _)) (fun q => h1 (.tail _ q)) e, GenOnlyQ.of ((GenOnly.setGen s g .running).trans (GenOnly.setGen { (s.setGen g .running) with heap := h', toks := tk } g gs')) hg hb, rfl, rfl, ht⟩
  done := fun s Q E st hQ => by
    have hgs : ∃ x, s.gens[g]? = some x := let ⟨_, _, x, e, _⟩ := st; ⟨x, e⟩
    obtain ⟨xg, hgs⟩ := hgs
    refine wpAny_with_toks (Nat.le_refl s.toks) (st.last hh hroom fun h' tk hk ht => ?_)
    exact hQ _ ⟨fun b o h1 e => hk b o (fun q => h1 (q ▸ .head _)) (fun q => h1 (.tail _ q)) e, GenOnlyQ.of ((GenOnly.setGen s g .running).trans (GenOnly.setGen (s.setGen g .running) g .finished)) (setGen_self (gs := .running) (setGen_self hgs)) rfl, rfl, rfl, ht⟩
  self := fun i s Q E st hQ => wpAny_pyIter_gen st.1 hQ
end
end
section
theorem fresh_Fq : True := by w_top off; trivial
/-- which parts pass -/
noncomputable def keepP (ps : List (List Nat)) (i : Nat) : Bool := (ps[i]?.getD []) != []
/-- a fresh Contentline with a part's text -/
noncomputable def ClF (C : Addr) (wr : List Addr) (ps : List (List Nat)) (i : Nat) (v : Value) (h : Heap) : Prop :=
  ∃ e t dx sl, v = .ref e ∧ h.get? e = some (clO (txt (ps[i]?.getD [])) t dx sl) ∧ h.get? dx = some emptyDict ∧ e ≠ C ∧ dx ≠ C ∧ e ∉ wr ∧ dx ∉ wr
theorem ns_not_empty {h : Heap} {C : Addr} {m : Str → Option Value} {x : Str} {v : Value} (hn : h.Ns C m) (hx : m x = some v) : h.get? C ≠ some emptyDict := by
  obtain ⟨o, es, ep, ho, hd, hk, hf⟩ := hn
  intro e
  rw [ho] at e; cases e
  cases hd
  have := hf x
  rw [hx] at this
  cases this
noncomputable abbrev fromScope : Scope := { kind := ScopeKind.function, names := [(Str.ofString ".0", NameKind.local), (Str.ofString "line", NameKind.local), (Str.ofString "Contentline", NameKind.globalImplicit)], isGenerator := true, isCoroutine := false }
set_option maxHeartbeats 1000000 in
theorem qg_from {w : World} {mean : ExcName → Option Value} {mg mb : Str → Option Value} {g2 : Heap} {C I lA : Addr} {code : Value} {env : Env} {items : Array Value} {ps : List (List Nat)} {px p1 p2 p3 : Pos} {D U : Nat}
    (hg : env.globals = mainGlobals) (X2 : (Mine.hd.heap_1 w.params).In g2) (T2 : Top topProg LLoose mean mg mb g2) (hC : g2.objs.size ≤ C)
    (hit : ∀ (i : Nat) (v : Value), items[i]? = some v → ∃ t p, ps[i]? = some p ∧ v = .str (txt p) t) (hp : ∀ p ∈ ps, 10 ∉ p ∧ p.length ≤ 100000) (hD : D + 4 < recursionLimit) (hU : U + 30 < cLine) :
    QG PySem.Challenge.pw_be0022_01 w (genEnv fromScope [] C code builtinsNs env) (Str.ofString "line") [.Name (Str.ofString "line") px] (.Call (.Name (Str.ofString "Contentline") p1) [.Name (Str.ofString "line") p2] [] p3)
      (fun i v => items[i]? = some v) (fun i h => h.IsListIter I lA i ∧ h.IsList lA items) (keepP ps) (ClF C [I] ps) (fun h => ∀ b o, g2.get? b = some o → h.get? b = some o) (D + 1) (U + 4) where
  tests := by
    intro A' E' i v s₂ m₂ hA hd hu hP hn hm hI hst
    obtain ⟨t, p, h1, rfl⟩ := hit i v hP
    have F1 : Fr g2 C s₂.heap m₂ := ⟨hn, hI, hC⟩
    obtain ⟨hp1, hp2⟩ := hp p (List.mem_of_getElem? h1)
    simp only [List.forIn_cons, if_true, List.forIn_nil]
    refine wpAny_bind (wpAny_bind (wpAny_isTrue_value (wpAny_Name (wpAny_loadName_local rfl rfl hn hm ?_))))
    refine P.truthy_str (by rw [str_len_txt]; omega) ?_
    refine wpAny_pure (wpAny_pure ⟨?_, _, _, rfl, fun _ _ e => e⟩)
    rw [str_len_txt]
    unfold keepP
    rw [h1]
    cases p with
    | nil => rfl
    | cons a r =>
      show (((a :: r).length : Int) != 0) = (a :: r != [])
      rw [bne_iff_ne.mpr (by simp only [List.length_cons]; omega), bne_iff_ne.mpr (by simp)]
  elt := by
    intro A' E' i v s₂ m₂ hA hd hu hP hpz hn hm hI hst
    obtain ⟨t, p, h1, rfl⟩ := hit i v hP
    have F1 : Fr g2 C s₂.heap m₂ := ⟨hn, hI, hC⟩
    obtain ⟨hp1, hp2⟩ := hp p (List.mem_of_getElem? h1)
    refine wpAny_Call_Name_kw (wpAny_Name (ks_loadName_global rfl rfl (loadGlobal_global (v := .ref 443) (by show s₂.heap.Ns env.globals mg; rw [hg]; exact T2.g.keeps F1.keep) (mg_of X2 T2.g (by kernel_rfl)) ?_)))
    refine callWith_K X2 (by kernel_rfl) ?_
    refine spliced_more ?_
    refine wpAny_Name (wpAny_loadName_local rfl rfl hn hm ?_)
    refine spliced_none ?_
    refine ⟨X2.keeps F1.keep, cl_make (sits_of F1 X2 T2) hp2 hp1 (by omega) (by omega) hA fun c h' tk' hc hc0 G _ => ?_⟩
    obtain ⟨t2, dx, sl, e1, e2⟩ := hc
    have k2 : ∀ b o, s₂.heap.get? b = some o → h'.get? b = some o := fun b o e => G.keep b o (fun q => nomatch q) e
    obtain ⟨oC, es, ep, hoC, _⟩ := id hn
    replace hoC : s₂.heap.get? C = some oC := hoC
    obtain ⟨⟨oI, hoI, hcI, _⟩, _⟩ := hst
    refine ⟨⟨c, t2, dx, sl, rfl, by rw [h1]; exact e1, e2, ?_, ?_, ?_, ?_⟩, _, _, rfl, k2⟩
    · intro q; rw [q] at hc0; rw [hoC] at hc0; cases hc0
    · intro q
      exact ns_not_empty (hn.keeps k2) hm (q ▸ e2)
    · intro q; rw [List.mem_singleton.mp q, hoI] at hc0; cases hc0
    · intro q
      rw [List.mem_singleton.mp q, k2 _ _ hoI] at e2
      rw [Option.some.inj e2] at hcI
      injection hcI with z
      exact absurd z (by decide)
end
section
theorem fresh_Tv : True := by w_top off; trivial
/-- a text; a Contentline, if it is not empty -/
noncomputable def TvC (h : Heap) (v : Value) (t : List Nat) : Prop := TextV h v (txt t) ∧ (t ≠ [] → ∃ e, v = .ref e)
theorem TvC.keeps {h h' : Heap} {v : Value} {t : List Nat} (V : TvC h v t) (k : ∀ b o, h.get? b = some o → h'.get? b = some o) : TvC h' v t := ⟨V.1.keeps k, V.2⟩
/-- a list of values that are texts -/
noncomputable def TxtsV (h : Heap) : List Value → List (List Nat) → Prop
  | [], [] => True
  | v :: vs, t :: ts => TvC h v t ∧ TxtsV h vs ts
  | _, _ => False
theorem TxtsV.keeps {h h' : Heap} (k : ∀ b o, h.get? b = some o → h'.get? b = some o) : ∀ {vs : List Value} {ts : List (List Nat)}, TxtsV h vs ts → TxtsV h' vs ts
  | [], [], _ => trivial
  | _ :: _, _ :: _, ⟨a, b⟩ => ⟨a.keeps k, TxtsV.keeps k b⟩
  | [], _ :: _, x => x.elim
  | _ :: _, [], x => x.elim
theorem TxtsV.length {h : Heap} : ∀ {vs : List Value} {ts : List (List Nat)}, TxtsV h vs ts → vs.length = ts.length
  | [], [], _ => rfl
  | _ :: _, _ :: _, ⟨_, b⟩ => congrArg (· + 1) (TxtsV.length b)
  | [], _ :: _, x => x.elim
  | _ :: _, [], x => x.elim
theorem TxtsV.get {h : Heap} : ∀ {vs : List Value} {ts : List (List Nat)}, TxtsV h vs ts → ∀ (j : Nat) (v : Value), vs[j]? = some v → ∃ t, ts[j]? = some t ∧ TvC h v t
  | [], [], _, _, _, e => by simp at e
  | v :: vs, t :: ts, ⟨a, b⟩, j, u, e => by
    cases j with
    | zero => simp at e; exact ⟨t, rfl, e ▸ a⟩
    | succ j => exact TxtsV.get b j u (by simpa using e)
  | [], _ :: _, x, _, _, _ => x.elim
  | _ :: _, [], x, _, _, _ => x.elim
theorem txtsV_of {h : Heap} : ∀ {vs : List Value} {ts : List (List Nat)}, vs.length = ts.length → (∀ (j : Nat) (v : Value), vs[j]? = some v → ∃ t, ts[j]? = some t ∧ TvC h v t) → TxtsV h vs ts
  | [], [], _, _ => trivial
  | v :: vs, t :: ts, e, k => by
    refine ⟨?_, txtsV_of (by simpa using e) fun j u hu => by simpa using k (j + 1) u (by simpa using hu)⟩
    obtain ⟨t', e1, e2⟩ := k 0 v rfl
    cases e1
    exact e2
  | [], _ :: _, e, _ => by simp at e
  | _ :: _, [], e, _ => by simp at e
theorem TxtsV.app {h : Heap} : ∀ {vs : List Value} {ts : List (List Nat)} {us : List Value} {qs : List (List Nat)}, TxtsV h vs ts → TxtsV h us qs → TxtsV h (vs ++ us) (ts ++ qs)
  | [], [], _, _, _, y => y
  | _ :: _, _ :: _, _, _, ⟨a, b⟩, y => ⟨a, TxtsV.app b y⟩
  | [], _ :: _, _, _, x, _ => x.elim
  | _ :: _, [], _, _, x, _ => x.elim
/-- the objects that texts rest on -/
theorem TxtsV.objs {h : Heap} {L : Addr} (hL : ∀ o, h.get? L = some o → o ≠ emptyDict ∧ ∀ x t dx sl, o ≠ clO x t dx sl) : ∀ {vs : List Value} {ts : List (List Nat)}, TxtsV h vs ts →
    ∃ objs : List (Addr × Obj), (∀ p ∈ objs, (h.get? p.1 = some p.2 ∧ p.1 ≠ L) ∧ p.2.cls ≠ .ref 474) ∧ ∀ h', (∀ p ∈ objs, h'.get? p.1 = some p.2) → TxtsV h' vs ts
  | [], [], _ => ⟨[], fun _ h => (nomatch h), fun _ _ => trivial⟩
  | v :: vs, t :: ts, ⟨a, b⟩ => by
    obtain ⟨r, k1, k2⟩ := TxtsV.objs hL b
    obtain ⟨a, a2⟩ := a
    rcases a with ⟨u, rfl⟩ | ⟨c, rfl, u, dx, sl, e1, e2⟩
    · exact ⟨r, k1, fun h' k => ⟨⟨.inl ⟨u, rfl⟩, a2⟩, k2 h' k⟩⟩
    · refine ⟨(c, clO (txt t) u dx sl) :: (dx, emptyDict) :: r, ?_, fun h' k => ⟨⟨.inr ⟨c, rfl, u, dx, sl, k _ (.head _), k _ (.tail _ (.head _))⟩, a2⟩, k2 h' fun p hp => k p (.tail _ (.tail _ hp))⟩⟩
      intro p hp
      rcases List.mem_cons.mp hp with rfl | hp
      · exact ⟨⟨e1, fun (q : c = L) => (hL _ (by rw [← q]; exact e1)).2 _ _ _ _ rfl⟩, fun q => by cases q⟩
      · rcases List.mem_cons.mp hp with rfl | hp
        · exact ⟨⟨e2, fun (q : dx = L) => (hL _ (by rw [← q]; exact e2)).1 rfl⟩, fun q => by cases q⟩
        · exact k1 p hp
  | [], _ :: _, x => x.elim
  | _ :: _, [], x => x.elim
theorem ns_obj {h : Heap} {C : Addr} {m : Str → Option Value} {x : Str} {v : Value} (hn : h.Ns C m) (hx : m x = some v) : ∀ o, h.get? C = some o → o ≠ emptyDict ∧ ∀ x t dx sl, o ≠ clO x t dx sl := by
  intro o e
  refine ⟨fun q => ns_not_empty hn hx (q ▸ e), fun x t dx sl q => ?_⟩
  obtain ⟨o', es, ep, ho, hd, _⟩ := hn
  rw [ho] at e; cases e
  rw [q] at hd; cases hd
/-- rows for what came since -/
theorem rows_of {h₀ h : Heap} {L : Addr} {m : Str → Option Value} (F : Fr h₀ L h m) (objs : List (Addr × Obj)) (H : ∀ p ∈ objs, h.get? p.1 = some p.2 ∧ p.1 ≠ L) :
    ∃ rows, News h₀ L h rows ∧ (∀ p ∈ rows, p ∈ objs) ∧ ∀ h' m', Fr h₀ L h' m' → News h₀ L h' rows → ∀ p ∈ objs, h'.get? p.1 = some p.2 := by
  refine ⟨objs.filter fun p => (h₀.get? p.1).isNone, fun p hp => ?_, fun p hp => (List.mem_filter.mp hp).1, fun h' m' F' N' p hp => ?_⟩
  · obtain ⟨h1, h2⟩ := List.mem_filter.mp hp
    exact ⟨(H p h1).1, (H p h1).2, by simpa using h2⟩
  · cases q : h₀.get? p.1 with
    | none => exact (N' p (List.mem_filter.mpr ⟨hp, by rw [q]; rfl⟩)).1
    | some o =>
      have := F.keep _ _ q
      rw [(H p hp).1] at this
      rw [F'.keep _ _ q, this]
theorem txts_rows {h₀ h : Heap} {L : Addr} {m : Str → Option Value} {x : Str} {v : Value} (F : Fr h₀ L h m) (hx : m x = some v) {vs : List Value} {ts : List (List Nat)} (V : TxtsV h vs ts) :
    ∃ rows, News h₀ L h rows ∧ (∀ p ∈ rows, p.2.cls ≠ .ref 474) ∧ ∀ h' m', Fr h₀ L h' m' → News h₀ L h' rows → TxtsV h' vs ts := by
  obtain ⟨objs, k1, k2⟩ := V.objs (ns_obj F.ns hx)
  obtain ⟨rows, k3, k5, k4⟩ := rows_of F objs fun p hp => (k1 p hp).1
  exact ⟨rows, k3, fun p hp => (k1 p (k5 p hp)).2, fun h' m' F' N' => k2 h' (k4 h' m' F' N')⟩
theorem news_app {h₀ h : Heap} {L : Addr} {r q : List (Addr × Obj)} (a : News h₀ L h r) (b : News h₀ L h q) : News h₀ L h (r ++ q) := fun p hp => (List.mem_append.mp hp).elim (a p) (b p)
theorem range_self (ps : List (List Nat)) : (List.range ps.length).map (fun i => ps[i]?.getD []) = ps := by
  refine List.ext_getElem? fun i => ?_
  rw [List.getElem?_map]
  rcases Nat.lt_or_ge i ps.length with h | h
  · rw [List.getElem?_range h, List.getElem?_eq_getElem h]; simp [h]
  · rw [List.getElem?_eq_none (by simpa using h), List.getElem?_eq_none h]; rfl
theorem passing_map (ps : List (List Nat)) : (passing (keepP ps) ps.length 0).map (fun i => ps[i]?.getD []) = ps.filter (fun l => l != []) := by
  unfold passing
  rw [List.drop_zero]
  conv => rhs; rw [← range_self ps]
  rw [List.filter_map]
  rfl
theorem passing_le (pz : Nat → Bool) (n : Nat) : (passing pz n 0).length ≤ n := by
  unfold passing
  have := List.length_filter_le pz ((List.range n).drop 0)
  simp at this ⊢
  exact this
end
section
theorem fresh_Lb : True := by w_top off; trivial
open PySem.Builtin PySem.Builtin.List PySem.W.X
theorem la_kind : builtinKind "list.append" = some .method := by decide +kernel
theorem la_split : splitId "list.append" = some ("list", "append") := by decide +kernel
theorem la_plain : plainId "list.append" = true := by decide +kernel
theorem la_entry : entryFor table "list.append" = some Builtin.«list.append» := entryFor_of_tree (by kernel_rfl)
theorem la_args (a b : Value) : argsOk "list.append" ⟨[a, b], []⟩ := by unfold argsOk; kernel_rfl
theorem check_method {M : Model} {A : Around} {E : Value → Shared → Prop} {s : Shared} {i owner n : String} {self : Value} {rest : List Value} {kw : List (Str × Value)} {Q : Unit → Shared → Prop}
    (hk : builtinKind i = some .method) (hs : splitId i = some (owner, n)) (hi : Looks M s.heap (isInstance self (.type owner)) true) (ha : argsOk i ⟨self :: rest, kw⟩) (q : Q () s) :
    wpAny M A (checkBuiltinCall i ⟨self :: rest, kw⟩) Q E s := by
  simp only [checkBuiltinCall, hk, hs]
  refine wpAny_bind (hi.here ?_)
  simp only [Bool.not_true, Bool.false_eq_true, if_false]
  cases hsig : Manifest.signature? i with
  | none => exact wpAny_pure q
  | some sig =>
    simp only [argsOk, hsig] at ha
    have h2 : Bind.checkArgs i sig ⟨self :: rest, kw⟩ = pure () := ha
    show wpAny M A (Bind.checkArgs i sig ⟨self :: rest, kw⟩) Q E s
    rw [h2]; exact wpAny_pure q
theorem method_bi {M : Model} {A : Around} {E : Value → Shared → Prop} {s : Shared} {K : Frag} {x C : Addr} {ox o : Obj} {name : Str} {id gi : String} {pl : Sem Bool} {Q : Value × List Value → Shared → Prop}
    (X : K.In s.heap) (I : InstAt s.heap x ox C (some o)) (hga : findIn K (.ref C) "__getattribute__" = some (some (.builtin gi))) (hcan : (Manifest.canonical gi != "object.__getattribute__") = false) (hk : findIn K (.ref C) "__getattr__" = some none)
    (hf : findIn K (.ref C) name = some (some (.builtin id))) (ty : typeOf (.builtin id) = pure (.type "method_descriptor")) (hs : shadowIn (some o) name = some false) (h : Q (.builtin id, [.ref x]) s) :
    wpAny M A (getMethod (.ref x) name pl) Q E s := by
  unfold getMethod specialOf
  refine wpAny_bind (wpAny_bind (I.type.here ((looks_findIn X hga).here ?_)))
  dsimp only
  rw [hcan, if_neg (by decide)]
  refine wpAny_bind (wpAny_bind (I.type.here ((looks_findIn X hk).here ?_)))
  refine wpAny_bind (wpAny_bind (I.type.here ((looks_findIn X hf).here (wpAny_bind (wpAny_of_eq ty ?_)))))
  rw [if_neg (by decide +kernel)]
  refine wpAny_bind (wpAny_loadPart I.at_ ?_)
  have hd := I.dict
  cases e : ox.dict with
  | none => exact wpAny_bind (wpAny_rule (wpAny_pure h))
  | some dx =>
    rw [e] at hd
    obtain ⟨r, a, b⟩ := Option.map_eq_some_iff.mp hs
    refine wpAny_bind (wpAny_bind (wpAny_loadPart hd ?_))
    rw [nsLook_of a]
    cases r with
    | some z => cases b
    | none => exact wpAny_pure (wpAny_bind (wpAny_rule (wpAny_pure h)))
theorem canon_list_ga : (Manifest.canonical "list.__getattribute__" != "object.__getattribute__") = false := by decide +kernel
theorem ls_ga (P : Params) : findIn (KK P) (.ref 474) "__getattribute__" = some (some (.builtin "list.__getattribute__")) := by kernel_rfl
theorem ls_gattr (P : Params) : findIn (KK P) (.ref 474) "__getattr__" = some none := by kernel_rfl
theorem ls_append (P : Params) : findIn (KK P) (.ref 474) "append" = some (some (.builtin "list.append")) := by kernel_rfl
section
variable {prog : Program} {w : World} {A : Around} {E : Value → Shared → Prop} {s : Shared} {P : Params} {c : Addr} {vs : Array Value}
theorem ls_method {pl : Sem Bool} {Q : Value × List Value → Shared → Prop} (X : (KK P).In s.heap) (H : LsAt s.heap c vs) (h : Q (.builtin "list.append", [.ref c]) s) : wpAny (model prog w) A (getMethod (.ref c) (Str.ofString "append") pl) Q E s := by
  obtain ⟨_, I⟩ := ls_inst H
  exact method_bi X I (ls_ga P) canon_list_ga (ls_gattr P) (ls_append P) type_list_append (by kernel_rfl) h
theorem ls_append_call {d : Addr} {v : Value} {Q : Value → Shared → Prop} (X : (KK P).In s.heap) (H : LsD s.heap c vs d) (hz : vs.size ≤ 100000) (h : ∀ h', Heap.SameBut c s.heap h' → LsD h' c (vs.push v) d → Q .none { s with heap := h' }) :
    wpAny (model prog w) A (call (.builtin "list.append") [.ref c, v]) Q E s := by
  obtain ⟨_, I⟩ := ls_inst ⟨_, H⟩
  refine wpAny_call (codeAny_call_builtin la_plain la_entry (check_method la_kind la_split (inst_looks X I (ls_mro P)) (la_args _ _) ?_))
  show wpAny _ _ (listUpdate (.ref c) (·.push v) >>= _) _ _ _
  refine wpAny_bind (ls_upd H (by omega) (by simp; omega) fun h' hs H' => ?_)
  exact wpAny_pure (h h' hs H')
end
end
section
theorem fresh_Fi : True := by w_top off; trivial
open PySem.Builtin PySem.Builtin.List PySem.W.X
theorem uni_any {w : World} {mean : ExcName → Option Value} {mg mb : Str → Option Value} {h₀ : Heap} {s : Shared} {A : Around} {Q E : Value → Shared → Prop}
  {l : List Nat} {v : Value}
  (S : Sits w mean mg mb h₀ s.heap) (hv : (∃ t, v = .str (txt l) t) ∨ ∃ t c cs, v = .bytes (enc l).toArray t ∧ enc l = c :: cs) (hs : ∀ c ∈ l, Sign c) (hl : l.length ≤ 1000000) (hd : A.depth + 1 < recursionLimit) (hu : A.units + 8 < cLine)
  (hret : ∀ h' tk' t', Grew [] s.heap h' → Q (.str (txt l) t') { s with heap := h', toks := tk' }) :
  wpAny (model PySem.Challenge.pw_be0022_01 w) A (call (.ref 47) [v]) Q E s := by
  rcases hv with ⟨t, rfl⟩ | ⟨t, c, cs, rfl, he⟩
  · exact uni_str S hd hu fun h' tk' G => hret h' tk' t G
  · exact uni_bytes S he hs hl hd hu hret
theorem try_clean {prog : Program} {w : World} {A : Around} {E : Value → Shared → Prop} {s : Shared} {env : Env} {body : List Stmt} {g₀ : ExceptHandler} {gs : List ExceptHandler} {pos : Pos} {Q : Flow → Shared → Prop}
    (h : wpAny (model prog w) A (execs body env) Q (fun _ _ => False) s) : wpAny (model prog w) A (exec (.Try body (g₀ :: gs) [] [] pos) env) Q E s :=
  wpAny_Try_except (wpAny_mono h (fun f s₁ hq => by cases f <;> first | exact hq | exact wpAny_execs_nil hq) fun _ _ h => h.elim)
theorem ls_tc_depth (A : Around) (v : Value) : (A.under (.builtin "type.__call__" ⟨[.ref 474, v], []⟩)).in1.depth = A.depth + 1 := by
  have e : (Code.builtin "type.__call__" ⟨[.ref 474, v], []⟩).weight = 1 := by kernel_rfl
  show A.depth + _ = _
  rw [e]
theorem ls_tc_units (A : Around) (v : Value) : (A.under (.builtin "type.__call__" ⟨[.ref 474, v], []⟩)).in1.units ≤ A.units + 4 := by
  have e : (Code.builtin "type.__call__" ⟨[.ref 474, v], []⟩).cUnits = 1 := by kernel_rfl
  show A.units + (Code.builtin "type.__call__" ⟨[.ref 474, v], []⟩).cUnits + _ ≤ _
  rw [e]
  omega
theorem gens_end {a b : Array GenState} {y : GenState} (h : GenOnly a.size (a.push y) b) (e : b[a.size]? = some .finished) : b = a ++ #[.finished] := by
  refine Array.ext_getElem? fun k => ?_
  obtain ⟨h1, h2⟩ := h
  rcases Nat.lt_trichotomy k a.size with q | q | q
  · rw [h2 k (Nat.ne_of_lt q), Array.getElem?_push, if_neg (Nat.ne_of_lt q), Array.getElem?_append_left q]
  · rw [q, e, Array.getElem?_append_right (Nat.le_refl _)]; simp
  · rw [h2 k (Nat.ne_of_gt q), Array.getElem?_push, if_neg (Nat.ne_of_gt q), Array.getElem?_append_right (Nat.le_of_lt q), Array.getElem?_eq_none (Nat.le_of_lt q), Array.getElem?_eq_none (by simp; omega)]
set_option maxHeartbeats 8000000 in
theorem from_code {w : World} {mean : ExcName → Option Value} {mg mb : Str → Option Value} {h₀ : Heap} {s : Shared} {A : Around} {R : Result → Shared → Prop}
  {x : List Nat} {v : Value} {ps : Array Value}
  (S : Sits w mean mg mb h₀ s.heap) (hb : ∀ p ∈ [((463 : Addr), tabObj ps)], s.heap.get? p.1 = some p.2 ∧ h₀.get? p.1 = none) (hps : TriplesOk ps.toList)
  (hv : (∃ t, v = .str (txt x) t) ∨ ∃ t c cs, v = .bytes (enc x).toArray t ∧ enc x = c :: cs) (hs : ∀ c ∈ x, Sign c) (hx : x.length ≤ 90000) (hd : A.depth + 10 < recursionLimit) (hu : A.units + 60 < cLine) (hA : A.handled = none)
  (hret : ∀ c h' tk' gs' (vs : List Value) ps', LsAt h' c vs.toArray → TxtsV h' vs (full (unf x) ++ [[]]) → s.heap.get? c = none → Grew [463] s.heap h' → h'.get? 463 = some (tabObj ps') → TriplesOk ps'.toList → (∃ gl : List GenState, (∀ y ∈ gl, y.bare = true) ∧ gs' = s.gens ++ gl.toArray) → R (.ok (.ret (.ref c))) { s with heap := h', toks := tk', gens := gs' }) :
  codeAny (model PySem.Challenge.pw_be0022_01 w) A (.call (.ref 468) ⟨[.ref 474, v], []⟩) R s := by
  (have Dz := dum; revert Dz; k_fill; intro Dz; clear Dz)
  (k_dflt (refine' enter _ ?k1 ?kb ?k6 ?k7 ?k8 ?k9 ?kl ?_ ?c2 ?c3 ?c4 ?c5; (case k1 => k_asm); (case kb => first | assumption | exact List.forall_mem_nil _); (case k6 => k_is); (case k7 => k_is); (case k8 => omega); (case k9 => first | exact BindsTo.of_eq rfl | (refine' binds_K (K := Mine.hd.heap_1 _) (Frag.In.keeps (Sits.X (by assumption)) (Sits.keep (by assumption))) rfl ?kd ?kr1 ?kr2 ?kr3; (case kd => k_is); (case kr1 => exact rfl); (case kr2 => exact rfl); (case kr3 => exact rfl))); (case c2 => decide); (case kl => exact locs rfl); (case c3 => exact rfl); (case c4 => exact rfl); (case c5 => exact rfl); k_whole); intro _ _ _ _ _ _ _ _; (try dsimp only); (try k_fold))
  rename_i gB LB _ _ _ _ _ _
  (repeat' (first | (k_unfold; (try dsimp only)) | ((fail_if_success with_reducible (first | refine st0 ?_ | refine st1 ?_ | refine st2 ?_ | refine st3 ?_ | refine st4 ?_ | refine st5 ?_ | refine st6 ?_ | refine st7 ?_ | refine st8 ?_ | refine st9 ?_ | refine st10 ?_)); walk1) | (dsimp only; (fail_if_success with_reducible (first | refine st0 ?_ | refine st1 ?_ | refine st2 ?_ | refine st3 ?_ | refine st4 ?_ | refine st5 ?_ | refine st6 ?_ | refine st7 ?_ | refine st8 ?_ | refine st9 ?_ | refine st10 ?_)); walk1) | (leave1; (try dsimp only)) | dsimp only | fail "no step"))
  rename Fr _ _ _ _ => F1
  rename News _ _ _ _ => N1
  rename Frag.In _ _ => X1
  rename Top _ _ _ _ _ _ => T1
  rename Under _ _ _ _ => U1
  refine uni_any (sits_of F1 X1 T1) hv hs (by omega) (show A.depth + 1 + 1 < _ by omega) (show A.units + 3 + 8 < _ by omega) ?_
  intro h2 tk2 t2 G2
  replace F1 := fr_nil F1 G2
  replace N1 := news_nil N1 G2
  clear G2
  (repeat' (first | (k_unfold; (try dsimp only)) | ((fail_if_success with_reducible (first | refine st0 ?_ | refine st1 ?_ | refine st2 ?_ | refine st3 ?_ | refine st4 ?_ | refine st5 ?_ | refine st6 ?_ | refine st7 ?_ | refine st8 ?_ | refine st9 ?_ | refine st10 ?_)); walk1) | (dsimp only; (fail_if_success with_reducible (first | refine st0 ?_ | refine st1 ?_ | refine st2 ?_ | refine st3 ?_ | refine st4 ?_ | refine st5 ?_ | refine st6 ?_ | refine st7 ?_ | refine st8 ?_ | refine st9 ?_ | refine st10 ?_)); walk1) | (leave1; (try dsimp only)) | dsimp only | fail "no step"))
  refine try_clean ?_
  (repeat' (first | (k_unfold; (try dsimp only)) | ((fail_if_success with_reducible (first | refine st0 ?_ | refine st1 ?_ | refine st2 ?_ | refine st3 ?_ | refine st4 ?_ | refine st5 ?_ | refine st6 ?_ | refine st7 ?_ | refine st8 ?_ | refine st9 ?_ | refine st10 ?_)); walk1) | (dsimp only; (fail_if_success with_reducible (first | refine st0 ?_ | refine st1 ?_ | refine st2 ?_ | refine st3 ?_ | refine st4 ?_ | refine st5 ?_ | refine st6 ?_ | refine st7 ?_ | refine st8 ?_ | refine st9 ?_ | refine st10 ?_)); walk1) | (leave1; (try dsimp only)) | dsimp only | fail "no step"))
  rename Fr _ _ _ _ => F1
  rename News _ _ _ _ => N1
  refine sub_method (pat_U (X1.keeps F1.keep)) ?_
  (repeat' (first | (k_unfold; (try dsimp only)) | ((fail_if_success with_reducible (first | refine st0 ?_ | refine st1 ?_ | refine st2 ?_ | refine st3 ?_ | refine st4 ?_ | refine st5 ?_ | refine st6 ?_ | refine st7 ?_ | refine st8 ?_ | refine st9 ?_ | refine st10 ?_)); walk1) | (dsimp only; (fail_if_success with_reducible (first | refine st0 ?_ | refine st1 ?_ | refine st2 ?_ | refine st3 ?_ | refine st4 ?_ | refine st5 ?_ | refine st6 ?_ | refine st7 ?_ | refine st8 ?_ | refine st9 ?_ | refine st10 ?_)); walk1) | (leave1; (try dsimp only)) | dsimp only | fail "no step"))
  rename Fr _ _ _ _ => F1
  rename News _ _ _ _ => N1
  refine ufold_sub (X1.keeps F1.keep) (by omega) ?_
  intro t3 h3 tk3 G3
  replace F1 := fr_nil F1 G3
  replace N1 := news_nil N1 G3
  clear G3
  (repeat' (first | (k_unfold; (try dsimp only)) | ((fail_if_success with_reducible (first | refine st0 ?_ | refine st1 ?_ | refine st2 ?_ | refine st3 ?_ | refine st4 ?_ | refine st5 ?_ | refine st6 ?_ | refine st7 ?_ | refine st8 ?_ | refine st9 ?_ | refine st10 ?_)); walk1) | (dsimp only; (fail_if_success with_reducible (first | refine st0 ?_ | refine st1 ?_ | refine st2 ?_ | refine st3 ?_ | refine st4 ?_ | refine st5 ?_ | refine st6 ?_ | refine st7 ?_ | refine st8 ?_ | refine st9 ?_ | refine st10 ?_)); walk1) | (leave1; (try dsimp only)) | dsimp only | fail "no step"))
  rename Fr _ _ _ _ => F1
  rename News _ _ _ _ => N1
  refine gen_make (c := 467) (P := 463) (cl := []) rfl hA rfl rfl (by decide) rfl rfl rfl (show A.depth + 1 < _ by omega) ?_ (fun _ => rfl)
  (repeat' (first | (k_unfold; (try dsimp only)) | ((fail_if_success with_reducible (first | refine st0 ?_ | refine st1 ?_ | refine st2 ?_ | refine st3 ?_ | refine st4 ?_ | refine st5 ?_ | refine st6 ?_ | refine st7 ?_ | refine st8 ?_ | refine st9 ?_ | refine st10 ?_)); walk1) | (dsimp only; (fail_if_success with_reducible (first | refine st0 ?_ | refine st1 ?_ | refine st2 ?_ | refine st3 ?_ | refine st4 ?_ | refine st5 ?_ | refine st6 ?_ | refine st7 ?_ | refine st8 ?_ | refine st9 ?_ | refine st10 ?_)); walk1) | (leave1; (try dsimp only)) | dsimp only | fail "no step"))
  refine sub_method (pat_N (X1.keeps F1.keep)) ?_
  (repeat' (first | (k_unfold; (try dsimp only)) | ((fail_if_success with_reducible (first | refine st0 ?_ | refine st1 ?_ | refine st2 ?_ | refine st3 ?_ | refine st4 ?_ | refine st5 ?_ | refine st6 ?_ | refine st7 ?_ | refine st8 ?_ | refine st9 ?_ | refine st10 ?_)); walk1) | (dsimp only; (fail_if_success with_reducible (first | refine st0 ?_ | refine st1 ?_ | refine st2 ?_ | refine st3 ?_ | refine st4 ?_ | refine st5 ?_ | refine st6 ?_ | refine st7 ?_ | refine st8 ?_ | refine st9 ?_ | refine st10 ?_)); walk1) | (leave1; (try dsimp only)) | dsimp only | fail "no step"))
  rename Fr _ _ _ _ => F1
  rename News _ _ _ _ => N1
  refine newline_sub (X1.keeps F1.keep) (by have := unf_le x; omega) ?_
  intro t4 h4 tk4 out hout hol G4
  replace F1 := fr_nil F1 G4
  replace N1 := news_nil N1 G4
  clear G4
  (repeat' (first | (k_unfold; (try dsimp only)) | ((fail_if_success with_reducible (first | refine st0 ?_ | refine st1 ?_ | refine st2 ?_ | refine st3 ?_ | refine st4 ?_ | refine st5 ?_ | refine st6 ?_ | refine st7 ?_ | refine st8 ?_ | refine st9 ?_ | refine st10 ?_)); walk1) | (dsimp only; (fail_if_success with_reducible (first | refine st0 ?_ | refine st1 ?_ | refine st2 ?_ | refine st3 ?_ | refine st4 ?_ | refine st5 ?_ | refine st6 ?_ | refine st7 ?_ | refine st8 ?_ | refine st9 ?_ | refine st10 ?_)); walk1) | (leave1; (try dsimp only)) | dsimp only | fail "no step"))
  rename Fr _ _ _ _ => F1
  rename News _ _ _ _ => N1
  refine splitN1A (hsz := by rw [str_len_txt, sizeLine_eq]; have := unf_le x; omega) F1 N1 (by decide) ?_
  intro pl h5 tk5 epl _ _ L5 F5 N5
  refine wpAny_pyIter_list L5 ?_
  have k6 : ∀ b o, h5.get? b = some o → (h5.push { cls := .type "list_iterator", data := .fields #[.ref h4.objs.size, .int 0 0] }).get? b = some o := fun b o e => Heap.get?_push_of_some _ e
  have F6 := fr_up F5 k6
  have N6 := news_up N5 k6
  obtain ⟨bm, ob, M1⟩ := bmod_of_top T1
  have hP := (N6 _ (.tail _ (.head _))).1
  have CH := (codeHd_of_K (c := 467) (P := 463) X1 (by kernel_rfl)).keeps F6.keep
  refine ⟨T1.nolimit.keeps F6.keep, _, bm, ob, _, CH.code hP hps, CH.tab hP, M1.keeps F6.keep, ?_⟩
  intro code h₃ hx₃ hsz₃ htab₃
  obtain ⟨P2, hP2⟩ : ∃ P2, P2 = lsGo (unf x) [] := ⟨_, rfl⟩
  have hit : ∀ (i : Nat) (v : Value), (strValues pl).toArray[i]? = some v → ∃ t p, P2[i]? = some p ∧ v = .str (txt p) t := by
    intro i v hv
    rw [ofs_nl, split_txt, hout, ← hP2] at epl
    have e1 := congrArg (·[i]?) epl
    simp only [List.getElem?_map, strValues, List.getElem?_toArray] at e1 hv
    cases q : pl[i]? with
    | none => rw [q] at hv; cases hv
    | some z =>
      rw [q] at hv e1
      cases hv
      cases q2 : P2[i]? with
      | none => rw [q2] at e1; cases e1
      | some p =>
        rw [q2] at e1
        exact ⟨z.2, p, rfl, by rw [← Option.some.inj e1]⟩
  have hn0 : (strValues pl).toArray.size = P2.length := by
    rw [ofs_nl, split_txt, hout, ← hP2] at epl
    have := congrArg List.length epl
    simpa [strValues] using this
  have hpp : ∀ p ∈ P2, 10 ∉ p ∧ p.length ≤ 100000 := by
    intro p hp
    rw [hP2] at hp
    refine ⟨fun q => ?_, ?_⟩
    · rcases lsGo_mem _ _ _ hp 10 q with h | h
      · cases h
      · exact h.2 rfl
    · have h1 := lsGo_le _ _ _ hp
      have h2 := unf_le x
      simp only [List.length_nil] at h1
      omega
  have lI : @LT.lt Nat _ h4.objs.size h5.objs.size := Heap.lt_size (N5 _ (.head _)).1
  have hI6 : (h5.push { cls := .type "list_iterator", data := .fields #[.ref h4.objs.size, .int 0 0] }).get? h5.objs.size = some { cls := .type "list_iterator", data := .fields #[.ref h4.objs.size, .int 0 0] } := Heap.get?_push_size _ rfl
  have l463 : @LT.lt Nat _ 463 h4.objs.size := Heap.lt_size (N1 _ (.head _)).1
  have hI3 : h₃.get? h5.objs.size = some { cls := .type "list_iterator", data := .fields #[.ref h4.objs.size, .int 0 0] } := hx₃ _ _ (Nat.ne_of_gt (Nat.lt_trans l463 lI)) hI6
  have hL3 : h₃.IsList h4.objs.size (strValues pl).toArray := by
    obtain ⟨o, e, r⟩ := L5
    exact ⟨o, hx₃ _ _ (Nat.ne_of_gt l463) (k6 _ _ e), r⟩
  have hne463 : ∀ b o, Heap.get? _ b = some o → b ≠ 463 := fun b o e q => by rw [q, (N6 _ (.tail _ (.head _))).2.2] at e; cases e
  have hneI : ∀ b o, Heap.get? _ b = some o → b ≠ h5.objs.size := fun b o e q => by
    have := F5.keep b o e
    rw [q] at this
    exact absurd (Heap.lt_size this) (Nat.lt_irrefl _)
  have st3 := fun b o e => hx₃ b o (hne463 b o e) (F6.keep b o e)
  have st2 := fun b o e => hideAll_get [h5.objs.size] (st3 b o e) (fun q => hneI b o e (List.mem_singleton.mp q))
  refine ⟨h5.objs.size, [h5.objs.size, h4.objs.size], [h5.objs.size], (strValues pl).toArray.size, fun i v => (strValues pl).toArray[i]? = some v, fun i h => h.IsListIter h5.objs.size h4.objs.size i ∧ h.IsList h4.objs.size (strValues pl).toArray,
    keepP P2, ClF h₃.objs.size [h5.objs.size] P2, fun h => ∀ b o, (hideAll h₃ [h5.objs.size]).get? b = some o → h.get? b = some o, A.depth + 5, A.units + 30, rfl, fun A' hA' => Walks.list hA' _ _ (Nat.ne_of_lt lI) _, ⟨⟨_, hI3, rfl, rfl⟩, hL3⟩, ?fp, ?iv, ?iv2, ?qg, ?fin⟩
  case fp =>
    intro b hb
    rcases List.mem_cons.mp hb with rfl | hb
    · exact ⟨_, hI3⟩
    · rw [List.mem_singleton.mp hb]
      obtain ⟨o, e, _⟩ := hL3
      exact ⟨o, e⟩
  case iv =>
    intro h h' a1 a2 b o e
    have e3 := of_hideAll _ e
    refine a2 b o (Nat.ne_of_lt (Heap.lt_size e3)) (fun q => ?_) (fun q => ?_) (a1 b o e)
    · rw [hideAll_none _ q] at e; cases e
    · rw [q.1] at e3; cases e3
  case iv2 => exact fun h' a b o e => a b o (of_hideAll _ e)
  case qg => exact qg_from rfl (X1.keeps st2) (T1.keeps st2) (Nat.le_of_eq (hideAll_size _ _)) hit hpp (by omega) (by omega)
  case fin =>
    intro h₅ tk gs hgb hsz5 hC5 keep₅ hG
    obtain ⟨ps', C3, T3⟩ := htab₃
    have hps' : TriplesOk ps'.toList := by
      obtain ⟨_, _, _, _, _, _, _, _, _, _, _, _, _, _, _, _, _, _, _, ht, _⟩ := C3
      exact ht
    have lC : @LT.lt Nat _ h5.objs.size h₃.objs.size := Heap.lt_size hI3
    have F7 : Fr _ _ h₅ _ := ⟨(F6.ns.extBut hx₃ (Ne.symm (N6 _ (.tail _ (.head _))).2.1)).keeps keep₅, fun b o e => keep₅ b o (st3 b o e), F6.above⟩
    have N7 : News _ _ h₅ [(463, tabObj ps')] := fun p hp => by rw [List.mem_singleton.mp hp]; exact ⟨keep₅ _ _ T3.2, (N6 _ (.tail _ (.head _))).2⟩
    have hcs3 : ∃ o, h₃.get? cStatics = some o := by
      obtain ⟨_, ⟨o, _, _, e, _⟩, _⟩ := T1.nolimit
      exact ⟨o, st3 _ _ e⟩
    have hcsI : cStatics ≠ h5.objs.size := by
      obtain ⟨_, ⟨o, _, _, e, _⟩, _⟩ := T1.nolimit
      exact hneI _ _ e
    have hLI := F5.ns.lt
    clear F1 N1 F5 N5 F6 N6 CH hP
    (repeat' (first | (k_unfold; (try dsimp only)) | ((fail_if_success with_reducible (first | refine st0 ?_ | refine st1 ?_ | refine st2 ?_ | refine st3 ?_ | refine st4 ?_ | refine st5 ?_ | refine st6 ?_ | refine st7 ?_ | refine st8 ?_ | refine st9 ?_ | refine st10 ?_)); walk1) | (dsimp only; (fail_if_success with_reducible (first | refine st0 ?_ | refine st1 ?_ | refine st2 ?_ | refine st3 ?_ | refine st4 ?_ | refine st5 ?_ | refine st6 ?_ | refine st7 ?_ | refine st8 ?_ | refine st9 ?_ | refine st10 ?_)); walk1) | (leave1; (try dsimp only)) | dsimp only | fail "no step"))
    rename Fr _ _ _ _ => F8
    rename News _ _ _ _ => N8
    have hcs' : ¬ young h₃ cStatics := fun q => by obtain ⟨o, e⟩ := hcs3; rw [q.1] at e; cases e
    have hgen := (hG { A with depth := 0, units := 0 } hA (Nat.zero_le _) (Nat.zero_le _)).1
    refine ls_of_gen (X1.keeps F8.keep) hA (g := s.gens.size) (C := h₃.objs.size) (wr := [h5.objs.size]) (ow := young h₃) (pz := keepP P2) (n₀ := (strValues pl).toArray.size) (F := ClF h₃.objs.size [h5.objs.size] P2) (D := A.depth + 5) (U := A.units + 30)
      (fun A' h1 h2 h3 => (hG A' h1 h2 h3).keeps (fun q => q.2.2 rfl) hcs' (fun _ _ _ e => e)) ?how (fun q => q.2.2 rfl) hcs' (Nat.succ_ne_self _) (fun q => ?haw) ?hcC (fun q => hcsI (List.mem_singleton.mp q)) (show A.depth + 1 + 1 < _ by omega) (by rw [ls_tc_depth]; show A.depth + 1 + 1 ≤ _; omega) (Nat.le_trans (ls_tc_units _ _) (show A.units + 3 + 4 ≤ _ by omega)) (by rw [ls_tc_depth]; show A.depth + 1 + 1 < _; omega) ?hn hC5 ?Wex ?hF ?hret
    case how =>
      intro b e
      refine ⟨?_, fun q => ?_, fun q => ?_⟩
      · cases q : h₃.get? b with
        | none => rfl
        | some o => rw [keep₅ _ _ q] at e; cases e
      · obtain ⟨o, e'⟩ := hC5
        rw [q, e'] at e; cases e
      · obtain ⟨o, _, _, e', _⟩ := hgen
        rw [q, e'] at e; cases e
    case haw => exact absurd (List.mem_singleton.mp q) (Nat.ne_of_gt (Nat.lt_succ_of_lt lC))
    case hcC =>
      intro q
      obtain ⟨o, e⟩ := hcs3
      exact absurd (Heap.lt_size e) (by rw [q]; exact Nat.lt_irrefl _)
    case hn =>
      refine Nat.le_trans (passing_le _ _) ?_
      rw [hn0, hP2]
      have h1 := lsGo_count (unf x) []
      have h2 := unf_le x
      omega
    case Wex =>
      intro b hb
      rw [List.mem_singleton.mp hb]
      exact ⟨_, keep₅ _ _ hI3⟩
    case hF =>
      rintro i v h h' c vs ⟨e, t, dx, sl, rfl, e1, e2, e3, e4, e5, e6⟩ ⟨d, n, c1, c2⟩ k
      refine ⟨e, t, dx, sl, rfl, k _ _ e3 e5 (fun q => ?_) e1, k _ _ e4 e6 (fun q => ?_) e2, e3, e4, e5, e6⟩
      · rw [q, c1] at e1
        have := congrArg Obj.cls (Option.some.inj e1); cases this
      · rw [q, c1] at e2
        have := congrArg Obj.cls (Option.some.inj e2); cases this
    case hret =>
      intro c h9 tk9 gs9 ys L9 hc9 k9 hl9 hy9 hgo9 hgf9
      rw [hn0] at hl9 hy9
      have hLC := Nat.lt_trans hLI lC
      have bC : ∀ b o, Heap.get? _ b = some o → b ≠ h₃.objs.size := fun b o e => Nat.ne_of_lt (Heap.lt_size (st3 b o e))
      have F9 : Fr _ _ h9 _ := ⟨F8.ns.at' (fun o e => k9 _ o (Nat.ne_of_lt hLC) (fun q => Nat.ne_of_lt hLI (List.mem_singleton.mp q)) e), fun b o e => k9 b o (bC b o e) (fun q => hneI b o e (List.mem_singleton.mp q)) (F8.keep b o e), F8.above⟩
      have e463 := k9 _ _ (Nat.ne_of_lt (Nat.lt_trans l463 (Nat.lt_trans lI lC))) (fun q => Nat.ne_of_lt (Nat.lt_trans l463 lI) (List.mem_singleton.mp q)) (N8 _ (.head _)).1
      have n463 := (N8 _ (.head _)).2
      obtain ⟨d, n, c1, d1⟩ := L9
      have V9 : TxtsV h9 ys (full (unf x)) := by
        have hfull : full (unf x) = (passing (keepP P2) P2.length 0).map (fun i => P2[i]?.getD []) := by rw [passing_map, hP2]; rfl
        refine txtsV_of (by rw [hl9, hfull, List.length_map]) fun j v hv => ?_
        obtain ⟨i, q1, e, t, dx, sl, rfl, e1, e2, _⟩ := hy9 j v hv
        refine ⟨P2[i]?.getD [], by rw [hfull, List.getElem?_map, q1]; rfl, .inr ⟨e, rfl, t, dx, sl, e1, e2⟩, fun _ => ⟨e, rfl⟩⟩
      obtain ⟨rows, R1, R3, R2⟩ := txts_rows F9 (x := Str.ofString "cls") rfl V9
      obtain ⟨rd, Rd1, Rd3, Rd2⟩ := rows_of F9 [(d, emptyDict)] (fun p hp => by
        rw [List.mem_singleton.mp hp]
        exact ⟨d1, fun (q : d = _) => (ns_obj F9.ns (x := Str.ofString "cls") rfl _ (by rw [← q]; exact d1)).1 rfl⟩)
      have NN : News gB LB h9 ((c, lsO d ys.toArray n) :: (463, tabObj ps') :: (rd ++ rows)) := by
        intro p hp
        rcases List.mem_cons.mp hp with rfl | hp
        · refine ⟨c1, fun (q : c = _) => ?_, ?_⟩
          · obtain ⟨o, _, _, e, _⟩ := F8.ns
            rw [← q, hc9] at e; cases e
          · show Heap.get? _ c = none
            cases q : gB.get? c with
            | none => rfl
            | some o => have := F8.keep _ _ q; rw [hc9] at this; cases this
        · rcases List.mem_cons.mp hp with rfl | hp
          · exact ⟨e463, n463⟩
          · exact news_app Rd1 R1 p hp
      have hgE := gens_end hgo9 hgf9
      subst hgE
      clear hgo9 hgf9 F8 N8 R1 Rd1 V9 hy9 k9 hG hgen
      (repeat' (first | (k_unfold; (try dsimp only)) | ((fail_if_success with_reducible (first | refine st0 ?_ | refine st1 ?_ | refine st2 ?_ | refine st3 ?_ | refine st4 ?_ | refine st5 ?_ | refine st6 ?_ | refine st7 ?_ | refine st8 ?_ | refine st9 ?_ | refine st10 ?_)); walk1) | (dsimp only; (fail_if_success with_reducible (first | refine st0 ?_ | refine st1 ?_ | refine st2 ?_ | refine st3 ?_ | refine st4 ?_ | refine st5 ?_ | refine st6 ?_ | refine st7 ?_ | refine st8 ?_ | refine st9 ?_ | refine st10 ?_)); walk1) | (leave1; (try dsimp only)) | dsimp only | fail "no step"))
      rename Fr _ _ _ _ => F10
      rename News _ _ _ _ => N10
      refine ls_method (X1.keeps F10.keep) ⟨d, n, (N10 _ (.head _)).1, Rd2 _ _ F10 (fun p hp => N10 p (.tail _ (.tail _ (List.mem_append.mpr (.inl hp))))) _ (.head _)⟩ ?_
      (repeat' (first | (k_unfold; (try dsimp only)) | ((fail_if_success with_reducible (first | refine st0 ?_ | refine st1 ?_ | refine st2 ?_ | refine st3 ?_ | refine st4 ?_ | refine st5 ?_ | refine st6 ?_ | refine st7 ?_ | refine st8 ?_ | refine st9 ?_ | refine st10 ?_)); walk1) | (dsimp only; (fail_if_success with_reducible (first | refine st0 ?_ | refine st1 ?_ | refine st2 ?_ | refine st3 ?_ | refine st4 ?_ | refine st5 ?_ | refine st6 ?_ | refine st7 ?_ | refine st8 ?_ | refine st9 ?_ | refine st10 ?_)); walk1) | (leave1; (try dsimp only)) | dsimp only | fail "no step"))
      rename Fr _ _ _ _ => F11
      rename News _ _ _ _ => N11
      have D11 := Rd2 _ _ F11 (fun p hp => N11 p (.tail _ (.tail _ (List.mem_append.mpr (.inl hp))))) _ (.head _)
      refine ls_append_call (X1.keeps F11.keep) ⟨n, (N11 _ (.head _)).1, D11⟩ ?hz ?_
      case hz =>
        show ys.length ≤ _
        rw [hl9]
        have h1 := passing_le (keepP P2) P2.length
        have h2 := lsGo_count (unf x) []
        have h3 := unf_le x
        rw [hP2] at h1 ⊢
        omega
      rintro h12 hs12 ⟨n2, c12, d12⟩
      have F12 : Fr gB LB h12 _ := ⟨F11.ns.at' fun o e => hs12.extBut _ _ (fun q => (N11 _ (.head _)).2.1 q.symm) e, fun b o e => hs12.extBut _ _ (fun q => by rw [q, (N11 _ (.head _)).2.2] at e; cases e) (F11.keep b o e), F11.above⟩
      have N12 : ∀ o12, h12.get? c = some o12 → News gB LB h12 ((c, o12) :: (463, tabObj ps') :: (rd ++ rows)) := by
        intro o12 c12 p hp
        rcases List.mem_cons.mp hp with rfl | hp
        · exact ⟨c12, (N11 _ (.head _)).2⟩
        · refine ⟨hs12.extBut _ _ (fun q => ?_) (N11 p (.tail _ hp)).1, (N11 p (.tail _ hp)).2⟩
          have h1 := (N11 p (.tail _ hp)).1
          have h2 := (N11 _ (.head _)).1
          rw [q] at h1
          have h3 := Option.some.inj (h1.symm.trans h2)
          rcases List.mem_cons.mp hp with rfl | hp
          · cases h3
          · rcases List.mem_append.mp hp with hp | hp
            · rw [List.mem_singleton.mp (Rd3 p hp)] at h3
              cases h3
            · exact R3 p hp (by rw [h3])
      replace N12 := N12 _ c12
      clear F11 N11 D11 c12 d12 hs12
      (repeat' (first | (k_unfold; (try dsimp only)) | ((fail_if_success with_reducible (first | refine st0 ?_ | refine st1 ?_ | refine st2 ?_ | refine st3 ?_ | refine st4 ?_ | refine st5 ?_ | refine st6 ?_ | refine st7 ?_ | refine st8 ?_ | refine st9 ?_ | refine st10 ?_)); walk1) | (dsimp only; (fail_if_success with_reducible (first | refine st0 ?_ | refine st1 ?_ | refine st2 ?_ | refine st3 ?_ | refine st4 ?_ | refine st5 ?_ | refine st6 ?_ | refine st7 ?_ | refine st8 ?_ | refine st9 ?_ | refine st10 ?_)); walk1) | (leave1; (try dsimp only)) | dsimp only | fail "no step"))
      rename Fr _ _ _ _ => F13
      rename News _ _ _ _ => N13
      have cne : c ≠ 463 := fun q => by
        have h1 := (N13 _ (.head _)).1
        have h2 := (N13 _ (.tail _ (.head _))).1
        rw [show (c, _).1 = 463 from q] at h1
        have := congrArg Obj.cls (Option.some.inj (h1.symm.trans h2))
        cases this
      refine hret c h12 _ _ (ys ++ [.str (Str.ofString "") _]) ps' ⟨d, n2, by rw [← List.push_toArray]; exact (N13 _ (.head _)).1, Rd2 _ _ F13 (fun p hp => N13 p (.tail _ (.tail _ (List.mem_append.mpr (.inl hp))))) _ (.head _)⟩
        ((R2 _ _ F13 fun p hp => N13 p (.tail _ (.tail _ (List.mem_append.mpr (.inr hp))))).app ⟨⟨.inl ⟨_, by rw [show Str.ofString "" = txt [] from by decide +kernel]⟩, fun q => absurd rfl q⟩, trivial⟩) ?_ (U1.grew F13) (N13 _ (.tail _ (.head _))).1 hps' ⟨[.finished], fun y hy => by rw [List.mem_singleton.mp hy]; rfl, rfl⟩
      cases q : s.heap.get? c with
      | none => rfl
      | some o =>
        have := U1.up c o (fun z => cne (List.mem_singleton.mp z)) q
        rw [(N13 _ (.head _)).2.2] at this; cases this
end
section
theorem fresh_Bj : True := by w_top off; trivial
open PySem.Builtin
theorem take_eq {id : String} {b : Array UInt8} {t : Tok} : Bytes.takeBuffer? id (.bytes b t) 0 = pure (some (b, none)) := by
  unfold Bytes.takeBuffer?
  rw [KBy.special_eq KBy.look_buffer, KBy.own_buffer]
  unfold Bytes.buffer?
  rw [KBy.special_eq KBy.look_buffer, KBy.own_buffer, KBy.own_release]
  kernel_rfl
theorem takeQ_eq {id : String} {b : Array UInt8} {t : Tok} : Bytes.takeBufferQuiet? id (.bytes b t) 0 = pure (some (b, none)) := by
  unfold Bytes.takeBufferQuiet?
  rw [take_eq]; rfl
theorem slot_bytes_join : Slot "bytes" "join" "bytes.join" :=
  .of (owner := "bytes") (n := "join") (by rw [typeLookup_type, builtinLookup_eq_fast]; kernel_rfl) (by decide +kernel) (by decide +kernel) (by decide +kernel)
    (by first | exact .inl (by decide +kernel) | exact .inr (by decide +kernel)) (by rw [isSubtype_type]; kernel_rfl)
theorem type_bytes_join : typeOf (.builtin "bytes.join") = pure (.type "method_descriptor") := by show builtinType _ = _; rw [builtinType_eq_fast]; kernel_rfl
theorem entry_bytes_join : entryFor table "bytes.join" = some Builtin.«bytes.join» := entryFor_of_tree (by kernel_rfl)
theorem args_bytes_join_2 (a b : Value) : argsOk "bytes.join" ⟨[a, b], []⟩ := by unfold argsOk; kernel_rfl
section
variable {M : Model} {prog : Program} {w : World} {A : Around} {E : Value → Shared → Prop} {s : Shared}
theorem forIn_inv {β : Type} {n : Nat} {f : Nat → β → Sem (ForInStep β)} {Q : β → Shared → Prop} (J : Nat → β → Prop)
    (step : ∀ i b (Q' : ForInStep β → Shared → Prop), i < n → J i b → (∀ b', J (i + 1) b' → Q' (.yield b') s) → wpAny M A (f i b) Q' E s) (done : ∀ b, J n b → Q b s) {b : β} (h0 : J 0 b) : wpAny M A (forIn [:n] b f) Q E s := by
  rw [KPc.range_list]
  have key : ∀ k i b, n - i = k → i ≤ n → J i b → wpAny M A (forIn (List.range' i k 1) b f) Q E s := by
    intro k
    induction k with
    | zero =>
      intro i b hk hi hj
      have : i = n := by omega
      subst this
      rw [List.range'_zero, List.forIn_nil]
      exact wpAny_pure (done b hj)
    | succ k ih =>
      intro i b hk hi hj
      rw [List.range'_succ, List.forIn_cons]
      refine wpAny_bind (step i b _ (by omega) hj fun b' hj' => ?_)
      exact ih (i + 1) b' (by omega) (by omega) hj'
  exact key n 0 b (by omega) (by omega) h0
theorem one_match {α : Type} {xs : Array Value} {f : Value → Sem α} {g : Sem α} {Q : α → Shared → Prop} (h1 : ∀ x, xs = #[x] → wpAny M A (f x) Q E s) (h2 : wpAny M A g Q E s) : wpAny M A (match xs with | #[x] => f x | _ => g) Q E s := by
  rcases xs with ⟨_ | ⟨x, _ | ⟨y, r⟩⟩⟩
  · exact h2
  · exact h1 _ rfl
  · exact h2
noncomputable abbrev bvals (bs : List (Array UInt8 × Tok)) : List Value := bs.map fun p => .bytes p.1 p.2
theorem join_letgo {taken : List Value} {keep : List Value} {Q : Unit → Shared → Prop} (h : Q () s) : wpAny M A (Bytes.joinLetGo (taken.map fun v => (v, none)) keep) Q E s := by
  induction taken with
  | nil => exact wpAny_pure h
  | cons v r ih =>
    rw [List.map_cons]
    unfold Bytes.joinLetGo
    exact wpAny_bind (wpAny_letGo ih)
/-- what is left of bytes.join once the items are a list -/
noncomputable def JoinsTo (sep : Array UInt8) (Q : Value → Shared → Prop) (v : Value) (s : Shared) : Prop :=
  ∃ l bs c, v = .ref l ∧ s.heap.get? l = some { cls := .type "list", data := .seq (bvals bs).toArray c } ∧
    (bs.map (·.1)).foldl (fun n p => n + p.size) (sep.size * (bs.length - 1)) ≤ 16777216 ∧ (Bytes.joined sep (bs.map (·.1))).size ≤ 16777216 ∧
    ∀ t' k, Q (.bytes (Bytes.joined sep (bs.map (·.1))) t') { s with toks := k }
theorem join_code {sep : Array UInt8} {t : Tok} {I : Addr} {Q : Fin → Shared → Prop} (h : wpAny (model prog w) A (Bytes.joinItems (.ref I)) (JoinsTo sep fun v s => Q (.done (.ret v)) s) E s) :
    wpAny (model prog w) A («bytes.join» ⟨[.bytes sep t, .ref I], []⟩) Q E s := by
  unfold «bytes.join» Bytes.joinM
  show wpAny _ _ (Bytes.joinItems (.ref I) >>= fun seq => _) _ _ _
  refine wpAny_bind (m := Bytes.joinItems (.ref I)) (wpAny_mono h ?_ fun _ _ e => e)
  clear h
  revert s
  intro _ v s h
  obtain ⟨l, bs, c, rfl, hl, hsz, hj, hQ⟩ := h
  refine wpAny_bind (m := seqItems? (.ref l)) (wpAny_seqItems hl rfl ?_)
  dsimp only
  rw [if_pos (by decide)]
  generalize hxs : (bvals bs).toArray = xs at hl ⊢
  refine one_match (fun x hx => ?_) ?_
  · rw [← hxs] at hx
    obtain ⟨b, u, rfl, rfl⟩ : ∃ b u, bs = [(b, u)] ∧ x = .bytes b u := by
      cases bs with
      | nil => simp at hx
      | cons p r =>
        cases r with
        | nil => obtain ⟨b, u⟩ := p; simp at hx; exact ⟨b, u, rfl, hx.symm⟩
        | cons q r => simp at hx
    refine wpAny_bind (wpAny_typeOf (typeIs_bytes s b u) ?_)
    rw [if_pos (by decide)]
    refine wpAny_bind (wpAny_rule (wpAny_pure ?_))
    have := hQ u s.toks
    rw [show Bytes.joined sep ([(b, u)].map (·.1)) = b by simp [Bytes.joined]] at this
    exact this
  · refine wpAny_bind (forIn_inv (fun i b => b = (((bs.take i).map (·.1)).toArray, (bvals (bs.take i)).map fun v => (v, none))) ?_ ?_ (by rfl))
    · rintro i b Q' hi rfl hQ'
      dsimp only
      refine wpAny_bind (wpAny_seqItems hl rfl ?_)
      have hb : bs.length = xs.size := by rw [← hxs]; simp
      have hi' : i < bs.length := by omega
      have hx : xs.getD i .none = .bytes bs[i].1 bs[i].2 := by
        rw [← hxs, Array.getD_eq_getD_getElem?]; simp [hi']
      dsimp only
      rw [hx]
      have hon : (((bvals (bs.take i)).map fun v => (v, (none : Option Value))).any fun x => x.1.onHeap) = false := by
        rw [List.any_eq_false]
        intro x hx
        obtain ⟨v, hv, rfl⟩ := List.mem_map.mp hx
        obtain ⟨p, _, rfl⟩ := List.mem_map.mp hv
        exact Bool.false_ne_true
      rw [if_neg (by rw [hon]; decide)]
      refine wpAny_bind (wpAny_holding (wpAny_of_eq takeQ_eq ?_))
      dsimp only
      refine wpAny_bind (wpAny_seqItems hl rfl ?_)
      dsimp only
      rw [if_neg (by simp)]
      refine wpAny_pure (hQ' _ ?_)
      rw [List.take_succ_eq_append_getElem hi']
      simp only [List.map_append, List.map_cons, List.map_nil, List.push_toArray, bvals]
    · rintro b rfl
      have hb : bs.length = xs.size := by rw [← hxs]; simp
      rw [← hb, List.take_length]
      dsimp only
      refine wpAny_bind (m := Bytes.payload (.bytes sep t)) (wpAny_pure ?_)
      rw [if_neg (by
        unfold Bytes.tooLong
        rw [sizeLine_eq]
        simp only [List.size_toArray, List.length_map, List.foldl_toArray', decide_eq_true_eq]
        omega)]
      refine wpAny_bind (m := mkBytes _) (wpAny_mkBytes ?_ (by rw [sizeLine_eq]; exact hj))
      refine wpAny_bind (wpAny_holding (wpAny_point (wpAny_bind (join_letgo ?_))))
      exact wpAny_pure (hQ _ _)
end
section
variable {prog : Program} {w : World} {A : Around} {E : Value → Shared → Prop} {s : Shared} {I : Addr} {fp wr : List Addr} {G : Array GenState → Array GenState → Prop} {n : Nat} {P : Nat → Value → Prop} {St : Nat → Shared → Prop}
theorem exists_bvals : ∀ (vs : List Value), (∀ v ∈ vs, ∃ b u, v = Value.bytes b u) → ∃ l : List (Array UInt8 × Tok), bvals l = vs
  | [], _ => ⟨[], rfl⟩
  | v :: vs, h => by
    obtain ⟨y, u, rfl⟩ := h v List.mem_cons_self
    obtain ⟨l, rfl⟩ := exists_bvals vs fun v hv => h v (List.mem_cons_of_mem _ hv)
    exact ⟨(y, u) :: l, rfl⟩
/-- bytes.join over a generator of octets -/
theorem bytes_join_gen {sep : Array UInt8} {t : Tok} {Q : Value → Shared → Prop} (W : WalksS prog w A.in1.in1.in1 I fp wr G n P St) (hT : ∀ i s, St i s → s.TypeIs (.ref I) "generator") (hst : St 0 s) (hfp : ∀ b ∈ fp, b < s.heap.objs.size) (hI : I ∈ fp) (hn : n ≤ 100000)
    (hval : ∀ i v, P i v → ∃ b u, v = Value.bytes b u)
    (hq : ∀ (s' : Shared) (bs : List (Array UInt8 × Tok)), (∀ b o, b ∉ wr → s.heap.get? b = some o → s'.heap.get? b = some o) → G s.gens s'.gens → s'.drawn = s.drawn → s'.os = s.os → ItemsOf P (bvals bs).toArray n →
      (bs.map (·.1)).foldl (fun n p => n + p.size) (sep.size * (bs.length - 1)) ≤ 16777216 ∧ (Bytes.joined sep (bs.map (·.1))).size ≤ 16777216 ∧ ∀ t' k, Q (.bytes (Bytes.joined sep (bs.map (·.1))) t') { s' with toks := k }) :
    wpAny (model prog w) A (call (.builtin "bytes.join") [.bytes sep t, .ref I]) Q E s := by
  refine wpAny_call (codeAny_call_builtin slot_bytes_join.plain entry_bytes_join (slot_bytes_join.check _ _ _ _ _ _ _ _ (typeIs_bytes _ _ _) (args_bytes_join_2 _ _) ?_))
  refine join_code ?_
  unfold Bytes.joinItems
  refine wpAny_bind (wpAny_typeOf (hT 0 s hst) ?_)
  rw [if_neg (by decide)]
  refine wpAny_bind (wpAny_tryCatch (W.of_in1.of_in1.self 0 s _ _ hst ?_))
  refine call_list_gen (hn := by rw [sizeLine_eq]; omega) W hT hst hfp hI fun s' acc c' hm hS hacc => ?_
  have hIw : s.heap.objs.size ∉ wr := fun q => Nat.lt_irrefl _ (hfp _ (W.sub _ q))
  obtain ⟨bs, hbs⟩ := exists_bvals acc.toList fun v hv => by
    obtain ⟨j, hj, rfl⟩ := Array.mem_iff_getElem.mp (Array.mem_toList_iff.mp hv)
    exact hval j _ (hacc.2 j _ (Array.getElem?_eq_getElem hj))
  have e : (bvals bs).toArray = acc := by rw [hbs]
  rw [← e] at hS hacc
  obtain ⟨q1, q2, q3⟩ := hq s' bs (fun b o h1 h2 => hm.heap b o (fun q => by
    rcases List.mem_cons.mp q with q | q
    · exact Nat.lt_irrefl _ (q ▸ Heap.lt_size h2)
    · exact h1 q) (Heap.get?_push_of_some _ h2)) hm.gens hm.drawn hm.os hacc
  exact ⟨_, bs, c', rfl, hS, q1, q2, fun t' k => q3 t' k⟩
end
end
section
theorem fresh_Tc : True := by w_top off; trivial
open PySem.Builtin PySem.Builtin.Str
section
variable {prog : Program} {w : World} {A : Around} {E : Value → Shared → Prop} {s : Shared} {c : Addr} {x : Str}
theorem meets_len : Meets («str.__len__» ⟨[.ref c], []⟩) (fun _ R s => ClAt s.heap c x ∧ R (.ok (.ret (.int x.length s.toks))) { s with toks := s.toks + 1 }) := by
  refine .of_wp fun prog w A R s h => ?_
  show wpAny _ _ ((do let s ← textOf (.ref c); pure (Value.ref c, s, ([] : List Value))) >>= _) _ _ _
  refine wpAny_bind (wpAny_bind (text_of h.1 (wpAny_pure ?_)))
  exact wpAny_bind (wpAny_mkInt (wpAny_pure ⟨_, rfl, h.2⟩))
theorem truthy_cl {P : Params} {Q : Bool → Shared → Prop} (X : (KK P).In s.heap) (hc : ClAt s.heap c x) (hx : x.length ≤ 1000000) (h : ∀ k, Q (x.length != 0) { s with toks := k }) : wpAny (model prog w) A (truthy (.ref c)) Q E s := by
  obtain ⟨_, I⟩ := cl_inst hc
  unfold truthy
  refine wpAny_bind (m := callSpecial? (.ref c) (Str.ofString "__bool__")) (wpAny_bind (wpAny_bind (I.type.here ((looks_findIn X (cl_bool P)).here (wpAny_pure ?_)))))
  refine wpAny_bind (wpAny_bind (I.type.here ((looks_findIn X (cl_len P)).here ?_)))
  rw [if_neg (by decide)]
  have key : wpAny (model prog w) A (runValue (.builtin "len" ⟨[.ref c], []⟩)) (fun r s' => (∃ t, r = .int x.length t) ∧ Q (x.length != 0) s') E s := by
    refine wpAny_runValue (codeAny_builtin entry_len ?_)
    rw [Around.under_plainId plain_len _]
    unfold Builtin.«len»
    refine wpAny_bind (m := oneArg "len" _) (wpAny_pure ?_)
    refine wpAny_bind (m := callSpecial? (.ref c) (Str.ofString "__len__")) (special_bi X I (cl_len P) PySem.F.slot_str_len.bind ?_)
    refine bi_call X I (cl_mro P) PySem.F.slot_str_len.plain k_len sp_len PySem.F.entry_str_len (PySem.F.args_str_len_1 _) meets_len ⟨hc, ?_⟩
    refine wpAny_bind (wpAny_holding (wpAny_pure ?_))
    refine wpAny_bind (wpAny_letGo ?_)
    show wpAny _ _ (if (x.length : Int) < 0 then _ else _) _ _ _
    rw [if_neg (by omega)]
    show wpAny _ _ (if (x.length : Int) ≥ 2 ^ 63 then _ else _) _ _ _
    rw [if_neg (by omega)]
    exact wpAny_bind (wpAny_mkInt (wpAny_pure ⟨⟨_, rfl⟩, h _⟩))
  refine wpAny_bind (wpAny_mono key (fun r s' h' => ?_) fun _ _ e => e)
  obtain ⟨⟨t, rfl⟩, hq⟩ := h'
  refine wpAny_pure ?_
  have : ((x.length : Int) != 0) = (x.length != 0) := by
    cases q : x.length with
    | zero => rfl
    | succ n => rw [bne_iff_ne.mpr (by omega), bne_iff_ne.mpr (by omega)]
  rw [this]
  exact hq
end
end
section
theorem fresh_Lx : True := by w_top off; trivial
open PySem.Builtin PySem.Builtin.List PySem.W.X
theorem kli_kind : builtinKind "list.__iter__" = some .slot := by decide +kernel
theorem kli_split : splitId "list.__iter__" = some ("list", "__iter__") := by decide +kernel
/-- an object that holds a sequence, of whichever class -/
noncomputable def SeqAt (h : Heap) (l : Addr) (items : Array Value) : Prop := ∃ o n, h.get? l = some o ∧ o.data = .seq items n
theorem LsAt.seq {h : Heap} {c : Addr} {vs : Array Value} (H : LsAt h c vs) : SeqAt h c vs := let ⟨_, n, e, _⟩ := H; ⟨_, n, e, rfl⟩
section
variable {prog : Program} {w : World} {A : Around} {E : Value → Shared → Prop} {s : Shared} {it l : Addr} {i : Nat} {items : Array Value}
theorem seq_item {x : Value} {Q : Option Value → Shared → Prop} (hit : s.heap.IsListIter it l i) (hl : SeqAt s.heap l items) (hx : items[i]? = some x)
    (hQ : ∀ h', h'.IsListIter it l (i + 1) → Heap.SameBut it s.heap h' → Q (some x) { s with heap := h' }) : wpAny (model prog w) A (pyNext (.ref it)) Q E s := by
  obtain ⟨o, ho, hc, hd⟩ := id hit
  obtain ⟨ol, nl, hol, hdl⟩ := hl
  unfold pyNext
  refine wpAny_bind (wpAny_attempt (wpAny_callSpecial?_slot (name := Str.ofString "__next__") hit.typeIs slot_listiter_next (wpAny_call_entry slot_listiter_next hit.typeIs entry_listiter_next ?_ (args_listiter_next _))))
  refine wpAny_bind (m := field (.ref it) 0) (wpAny_field ho hd (x := .ref l) rfl ?_)
  show wpAny _ _ (if (Value.ref l == Value.none) = true then _ else _) _ _ s
  rw [if_neg (show ¬ ((Value.ref l == Value.none) = true) from Bool.false_ne_true)]
  refine wpAny_bind (m := field (.ref it) 1) (wpAny_field ho hd (x := .int i 0) rfl ?_)
  refine wpAny_bind (m := seqItems? (.ref l)) (wpAny_seqItems hol hdl ?_)
  simp only [Int.toNat_natCast, hx]
  refine wpAny_bind (wpAny_setField ho hd (by simp) (wpAny_pure ⟨x, rfl, wpAny_pure (hQ _ ?_ (Heap.SameBut.update ..))⟩))
  exact ⟨_, Heap.get?_update_self _ ho (Obj.isFreed_of_fields (Obj.data_mapFields hd _)), (Obj.cls_mapFields ..).trans hc, by rw [Obj.data_mapFields hd]; simp [rawInt]⟩
theorem seq_end {Q : Option Value → Shared → Prop} (hh : A.handled = none) (hit : s.heap.IsListIter it l i) (hl : SeqAt s.heap l items) (hx : items[i]? = none)
    (hQ : ∀ h', Heap.ExtBut it s.heap h' → Q none { s with heap := h' }) : wpAny (model prog w) A (pyNext (.ref it)) Q E s := by
  obtain ⟨o, ho, hc, hd⟩ := id hit
  obtain ⟨ol, nl, hol, hdl⟩ := hl
  unfold pyNext
  refine wpAny_bind (wpAny_attempt (wpAny_callSpecial?_slot (name := Str.ofString "__next__") hit.typeIs slot_listiter_next (wpAny_call_entry slot_listiter_next hit.typeIs entry_listiter_next ?_ (args_listiter_next _))))
  refine wpAny_bind (m := field (.ref it) 0) (wpAny_field ho hd (x := .ref l) rfl ?_)
  show wpAny _ _ (if (Value.ref l == Value.none) = true then _ else _) _ _ s
  rw [if_neg (show ¬ ((Value.ref l == Value.none) = true) from Bool.false_ne_true)]
  refine wpAny_bind (m := field (.ref it) 1) (wpAny_field ho hd (x := .int i 0) rfl ?_)
  refine wpAny_bind (m := seqItems? (.ref l)) (wpAny_seqItems hol hdl ?_)
  simp only [Int.toNat_natCast, hx]
  refine wpAny_bind (wpAny_rule (wpAny_bind (wpAny_setField ho hd (by simp) ?_)))
  refine wpAny_bind (m := newExc (.type "StopIteration") []) ?_
  simp only [newExc, newTuple]
  refine wpAny_bind (wpAny_newObj_type ?_ (by size_fits))
  refine wpAny_bind (m := firstArgMember _ _) (wpAny_of_eq (a := Value.none) (by first | rfl | (simp only [firstArgMember]; rfl)) ?_)
  refine wpAny_newObj_type ?_ (by size_fits)
  simp only [raiseNew]
  refine wpAny_bind (wpAny_handled ?_)
  rw [show A.in1.handled = none from hh]
  refine wpAny_bind (wpAny_pure (wpAny_throw ?_))
  refine wpAny_bind (wpAny_isInstance (T := "StopIteration") (b := true) ⟨_, Heap.get?_push_size _ rfl, rfl⟩ isSubtype_stop ?_)
  exact wpAny_pure (hQ _ (((Heap.SameBut.update ..).extBut.push _).push _))
theorem walks_seq (hh : A.handled = none) (I c : Addr) (hne : c ≠ I) (items : Array Value) :
    Walks prog w A I [I, c] [I] items.size (fun i v => items[i]? = some v) (fun i h => h.IsListIter I c i ∧ SeqAt h c items) where
  sub := fun b hb => by simp at hb; simp [hb]
  frame := fun _ _ _ st hk => ⟨st.1.at fun o e => hk I (by simp) o e, let ⟨o, n, e, d⟩ := st.2; ⟨o, n, hk c (by simp) o e, d⟩⟩
  item := fun i s Q E hi st hQ => by
    refine seq_item st.1 st.2 (x := items[i]) (by simp [hi]) fun h' hit' hs' => ?_
    exact hQ _ h' s.toks (by simp [hi]) ⟨hit', let ⟨o, n, e, d⟩ := st.2; ⟨o, n, hs'.extBut _ _ hne e, d⟩⟩ fun b o hb e => hs'.extBut b o (fun h => hb (by simp [h])) e
  done := fun s Q E st hQ => seq_end hh st.1 st.2 (by simp) fun h' he' => hQ h' s.toks fun b o hb e => he' b o (fun h => hb (by simp [h])) e
  self := fun _ _ _ _ st hQ => wpAny_pyIter_listiter st.1 hQ
theorem meets_liter {c : Addr} : Meets («list.__iter__» ⟨[.ref c], []⟩) (fun _ R s => R (.ok (.ret (.ref s.heap.objs.size))) { s with heap := s.heap.push { cls := .type "list_iterator", data := .fields #[.ref c, .int 0 0] } }) := by
  refine .of_wp fun prog w A R s h => ?_
  show wpAny _ _ (do ret (← newFields "list_iterator" [.ref c, rawInt 0])) _ _ s
  exact wpAny_bind (wpAny_newObj_type (wpAny_pure ⟨_, rfl, h⟩))
theorem ls_pyIter {P : Params} {c : Addr} {vs : Array Value} {Q : Value → Shared → Prop} (X : (KK P).In s.heap) (H : LsAt s.heap c vs)
    (h : Q (.ref s.heap.objs.size) { s with heap := s.heap.push { cls := .type "list_iterator", data := .fields #[.ref c, .int 0 0] } }) : wpAny (model prog w) A (pyIter (.ref c)) Q E s := by
  obtain ⟨_, I⟩ := ls_inst H
  refine pyIter_bi X I (ls_iter P) slot_list_iter.bind ?_
  refine bi_call X I (ls_mro P) slot_list_iter.plain kli_kind kli_split entry_list_iter (args_list_iter _) meets_liter ?_
  exact ⟨"list_iterator", _, ⟨_, Heap.get?_push_size _ rfl, rfl⟩, slot_listiter_next.lookup, h⟩
end
end
section
theorem fresh_Tq : True := by w_top off; trivial
open PySem.Builtin PySem.W.X
theorem cl_ga (P : Params) : findIn (KK P) (.ref 443) "__getattribute__" = some (some (.builtin "object.__getattribute__")) := by kernel_rfl
theorem cl_gattr (P : Params) : findIn (KK P) (.ref 443) "__getattr__" = some none := by kernel_rfl
theorem cl_toical (P : Params) : findIn (KK P) (.ref 443) "to_ical" = some (some (.ref 439)) := by kernel_rfl
theorem cl_toical_fn (P : Params) : typeIn (KK P) (.ref 439) = some (.type "function") := by kernel_rfl
noncomputable abbrev toScope : Scope := { kind := ScopeKind.function, names := [(Str.ofString ".0", NameKind.local), (Str.ofString "line", NameKind.local)], isGenerator := true, isCoroutine := false }
/-- the octets of a line -/
noncomputable def OctF (ps : List (List Nat)) (i : Nat) (v : Value) : Prop := ∃ u, v = .bytes (enc (fold (ps[i]?.getD []))).toArray u
set_option maxHeartbeats 1000000 in
theorem qg_to {w : World} {mean : ExcName → Option Value} {mg mb : Str → Option Value} {g2 : Heap} {C I c : Addr} {code : Value} {env : Env} {vs : List Value} {ps : List (List Nat)} {px p1 : Pos} {c1 c2 c3 c4 : Nat} {D U : Nat}
    (X2 : (Mine.hd.heap_1 w.params).In g2) (T2 : Top topProg LLoose mean mg mb g2) (hC : g2.objs.size ≤ C)
    (V : TxtsV g2 vs ps) (hp : ∀ p ∈ ps, p.length ≤ 1000 ∧ 10 ∉ p ∧ ∀ c ∈ p, Sign c) (hD : D + 4 < recursionLimit) (hU : U + 30 < cLine) :
    QG PySem.Challenge.pw_be0022_01 w (genEnv toScope [] C code builtinsNs env) (Str.ofString "line") [.Name (Str.ofString "line") px] (.Call (.Attribute (.Name (Str.ofString "line") p1) (Str.ofString "to_ical") ⟨373, c1, 373, c2⟩) [] [] ⟨373, c3, 373, c4⟩)
      (fun i v => vs.toArray[i]? = some v) (fun i h => h.IsListIter I c i ∧ SeqAt h c vs.toArray) (keepP ps) (fun i v _ => OctF ps i v) (fun h => ∀ b o, g2.get? b = some o → h.get? b = some o) (D + 1) (U + 4) where
  tests := by
    intro A' E' i v s₂ m₂ hA hd hu hP hn hm hI hst
    obtain ⟨p, h1, V1⟩ := V.get i v (by simpa using hP)
    have F1 : Fr g2 C s₂.heap m₂ := ⟨hn, hI, hC⟩
    obtain ⟨hp1, _⟩ := hp p (List.mem_of_getElem? h1)
    simp only [List.forIn_cons, if_true, List.forIn_nil]
    refine wpAny_bind (wpAny_bind (wpAny_isTrue_value (wpAny_Name (wpAny_loadName_local rfl rfl hn hm ?_))))
    have hk : keepP ps i = (p != []) := by unfold keepP; rw [h1]; rfl
    rcases V1.1 with ⟨t, rfl⟩ | ⟨e, rfl, hc⟩
    · refine P.truthy_str (by rw [str_len_txt]; omega) ?_
      refine wpAny_pure (wpAny_pure ⟨?_, _, _, rfl, fun _ _ e => e⟩)
      rw [str_len_txt, hk]
      cases p with
      | nil => rfl
      | cons a r =>
        show (((a :: r).length : Int) != 0) = (a :: r != [])
        rw [bne_iff_ne.mpr (by simp only [List.length_cons]; omega), bne_iff_ne.mpr (by simp)]
    · refine truthy_cl (X2.keeps hI) (hc.keeps hI) (by rw [str_len_txt]; omega) fun k => ?_
      refine wpAny_pure (wpAny_pure ⟨?_, _, _, rfl, fun _ _ e => e⟩)
      rw [str_len_txt, hk]
      cases p with
      | nil => rfl
      | cons a r =>
        show ((a :: r).length != 0) = (a :: r != [])
        rw [bne_iff_ne.mpr (by simp), bne_iff_ne.mpr (by simp)]
  elt := by
    intro A' E' i v s₂ m₂ hA hd hu hP hpz hn hm hI hst
    obtain ⟨p, h1, V1⟩ := V.get i v (by simpa using hP)
    have F1 : Fr g2 C s₂.heap m₂ := ⟨hn, hI, hC⟩
    obtain ⟨hp1, hp2, hp3⟩ := hp p (List.mem_of_getElem? h1)
    have hne : p ≠ [] := by
      unfold keepP at hpz
      rw [h1] at hpz
      simpa using hpz
    obtain ⟨e, rfl⟩ := V1.2 hne
    obtain ⟨e', he', hc⟩ : ∃ e', Value.ref e = .ref e' ∧ ClAt g2 e' (txt p) := by
      rcases V1.1 with ⟨t, q⟩ | h
      · cases q
      · exact h
    cases he'
    obtain ⟨_, J⟩ := cl_inst (hc.keeps hI)
    refine MethodCall_ (wpAny_Name (wpAny_loadName_local rfl rfl hn hm ?_))
    refine method_fn (X2.keeps hI) J (cl_ga _) (cl_gattr _) (cl_toical _) (cl_toical_fn _) (by kernel_rfl) ?_
    refine callWith_K0 (X2.keeps hI) (by kernel_rfl) ?_
    refine ical_spec (sits_of F1 X2 T2) (hc.keeps hI) hp1 hp2 hp3 (by omega) (by omega) hA fun h' tk' t' G => ?_
    exact ⟨⟨t', by rw [h1]; rfl⟩, _, _, rfl, fun b o e => G.keep b o (fun q => nomatch q) e⟩
end
section
theorem fresh_Jp : True := by w_top off; trivial
open PySem.Builtin
/-- what is written: the texts that are not empty -/
noncomputable def outT (ts : List (List Nat)) : List Nat := if ts = [] then [13, 10] else body ts
theorem zip_fold (sep : Array UInt8) : ∀ (r : List (Array UInt8)) (k : Nat) (out : Array UInt8), 0 < k →
    (r.zipIdx k).foldl (fun out (p, i) => (if i > 0 then out ++ sep else out) ++ p) out = out ++ (r.flatMap fun p => sep.toList ++ p.toList).toArray
  | [], k, out, _ => by simp
  | p :: r, k, out, hk => by
    rw [List.zipIdx_cons, List.foldl_cons]
    dsimp only
    rw [if_pos hk, zip_fold sep r (k + 1) _ (by omega)]
    apply Array.ext'
    simp
theorem joined_cons (sep p : Array UInt8) (r : List (Array UInt8)) : Bytes.joined sep (p :: r) = p ++ (r.flatMap fun p => sep.toList ++ p.toList).toArray := by
  unfold Bytes.joined
  rw [List.zipIdx_cons, List.foldl_cons]
  dsimp only
  rw [if_neg (by omega), zip_fold sep r _ _ (by omega)]
  simp
theorem enc_crnl : enc [13, 10] = [13, 10] := by decide +kernel
theorem flat_shift (f : List Nat → List UInt8) (q : List UInt8) : ∀ r : List (List Nat), (r.flatMap fun t => q ++ f t) ++ q = q ++ r.flatMap fun t => f t ++ q
  | [] => by simp
  | a :: r => by rw [List.flatMap_cons, List.flatMap_cons, List.append_assoc, flat_shift f q r]; simp
theorem enc_body : ∀ ts : List (List Nat), enc (body ts) = ts.flatMap fun t => enc (fold t) ++ [13, 10]
  | [] => rfl
  | t :: r => by
    rw [body_cons, List.flatMap_cons, ← enc_body r, enc_append, show (13 :: 10 :: body r : List Nat) = [13, 10] ++ body r from rfl, enc_append, enc_crnl]
    simp
theorem joined_out (ts : List (List Nat)) : Bytes.joined #[13, 10] (ts.map fun t => (enc (fold t)).toArray) ++ #[13, 10] = (enc (outT ts)).toArray := by
  cases ts with
  | nil => rfl
  | cons t r =>
    rw [List.map_cons, joined_cons, outT, if_neg (by simp), enc_body, List.flatMap_cons]
    apply Array.ext'
    simp only [Array.toList_append, List.flatMap_map]
    rw [List.append_assoc, List.append_assoc, flat_shift (fun t => enc (fold t)) [13, 10] r]
theorem enc_len (l : List Nat) : (enc l).length ≤ 4 * l.length := by
  induction l with
  | nil => simp [enc]
  | cons c r ih =>
    have : enc (c :: r) = Str.utf8Of c ++ enc r := rfl
    rw [this, List.length_append, List.length_cons]
    have := u8_le c
    omega
theorem body_mem {ts : List (List Nat)} (h : ∀ t ∈ ts, ∀ c ∈ t, Sign c) : ∀ c ∈ body ts, Sign c := by
  intro c hc
  unfold body at hc
  obtain ⟨l, hl, hc⟩ := List.mem_flatten.mp hc
  obtain ⟨t, ht, rfl⟩ := List.mem_map.mp hl
  rcases List.mem_append.mp hc with hc | hc
  · exact fold_signs (h t ht) c hc
  · simp only [List.mem_cons, List.not_mem_nil, or_false] at hc
    exact .inl (by omega)
theorem outT_mem {ts : List (List Nat)} (h : ∀ t ∈ ts, ∀ c ∈ t, Sign c) : ∀ c ∈ outT ts, Sign c := by
  unfold outT
  split
  · intro c hc
    simp only [List.mem_cons, List.not_mem_nil, or_false] at hc
    exact .inl (by omega)
  · exact body_mem h
theorem body_le {B : Nat} : ∀ {ts : List (List Nat)}, (∀ t ∈ ts, t.length ≤ B) → (body ts).length ≤ ts.length * (4 * B + 5)
  | [], _ => by simp [body]
  | t :: r, h => by
    have h1 := body_le (B := B) (ts := r) fun t ht => h t (.tail _ ht)
    have h2 := h t (.head _)
    have h3 := fold_len t
    rw [body_cons, List.length_append, List.length_cons, List.length_cons, List.length_cons, Nat.succ_mul]
    omega
theorem outT_ne (ts : List (List Nat)) : outT ts ≠ [] := by
  unfold outT
  split
  · simp
  · rename_i h
    cases ts with
    | nil => exact absurd rfl h
    | cons t r => rw [body_cons]; simp
theorem foldl_le {B : Nat} : ∀ (l : List (Array UInt8)) (k : Nat), (∀ p ∈ l, p.size ≤ B) → l.foldl (fun n p => n + p.size) k ≤ k + l.length * B
  | [], k, _ => by simp
  | p :: r, k, h => by
    have h1 := foldl_le (B := B) r (k + p.size) fun q hq => h q (.tail _ hq)
    have h2 := h p (.head _)
    rw [List.foldl_cons, List.length_cons, Nat.succ_mul]
    omega
/-- the sizes that joining asks for -/
theorem join_fits {qs : List (List Nat)} (hq : ∀ t ∈ qs, t.length ≤ 1000) (hn : qs.length ≤ 1000) :
    (qs.map fun t => (enc (fold t)).toArray).foldl (fun n p => n + p.size) ((#[13, 10] : Array UInt8).size * (qs.length - 1)) ≤ 16777216 ∧ (Bytes.joined #[13, 10] (qs.map fun t => (enc (fold t)).toArray)).size + 2 ≤ 16777216 := by
  constructor
  · refine Nat.le_trans (foldl_le (B := 16012) _ _ ?_) ?_
    · intro p hp
      obtain ⟨t, ht, rfl⟩ := List.mem_map.mp hp
      have h1 := enc_len (fold t)
      have h2 := fold_len t
      have h3 := hq t ht
      simp only [List.size_toArray]
      omega
    · rw [List.length_map]
      have : qs.length * 16012 ≤ 1000 * 16012 := Nat.mul_le_mul_right _ hn
      show 2 * (qs.length - 1) + _ ≤ _
      omega
  · have h1 := congrArg Array.size (joined_out qs)
    rw [Array.size_append] at h1
    have h2 := enc_len (outT qs)
    have h3 : (outT qs).length ≤ 1000 * 4005 + 2 := by
      unfold outT
      split
      · simp
      · have h4 := body_le hq
        have : qs.length * (4 * 1000 + 5) ≤ 1000 * (4 * 1000 + 5) := Nat.mul_le_mul_right _ hn
        omega
    simp only [List.size_toArray, List.length_cons, List.length_nil] at h1
    have h5 : (#[13, 10] : Array UInt8).size = 2 := rfl
    omega
end
section
theorem fresh_To : True := by w_top off; trivial
open PySem.Builtin PySem.Builtin.List PySem.W.X
theorem gens_endQ {a b : Array GenState} {y : GenState} (hy : y.bare = true) (h : GenOnlyQ a.size (a.push y) b) : ∃ z, z.bare = true ∧ b = a ++ #[z] := by
  rcases h with rfl | ⟨⟨h1, h2⟩, h3⟩
  · exact ⟨y, hy, by simp⟩
  · have hb : a.size < b.size := by rw [h1, Array.size_push]; exact Nat.lt_succ_self _
    refine ⟨b[a.size], h3 _ (Array.getElem?_eq_getElem hb), ?_⟩
    refine Array.ext_getElem? fun k => ?_
    rcases Nat.lt_trichotomy k a.size with q | q | q
    · rw [h2 k (Nat.ne_of_lt q), Array.getElem?_push, if_neg (Nat.ne_of_lt q), Array.getElem?_append_left q]
    · subst q
      rw [Array.getElem?_eq_getElem hb, Array.getElem?_append_right (Nat.le_refl _)]; simp
    · rw [h2 k (Nat.ne_of_gt q), Array.getElem?_push, if_neg (Nat.ne_of_gt q), Array.getElem?_append_right (Nat.le_of_lt q), Array.getElem?_eq_none (Nat.le_of_lt q), Array.getElem?_eq_none (by simp; omega)]
set_option maxHeartbeats 8000000 in
theorem to_spec {w : World} {mean : ExcName → Option Value} {mg mb : Str → Option Value} {h₀ : Heap} {s : Shared} {A : Around} {Q E : Value → Shared → Prop}
  {c : Addr} {vs : List Value} {ts : List (List Nat)} {ps : Array Value}
  (S : Sits w mean mg mb h₀ s.heap) (hb : ∀ p ∈ [((456 : Addr), tabObj ps)], s.heap.get? p.1 = some p.2 ∧ h₀.get? p.1 = none) (hps : TriplesOk ps.toList)
  (H : LsAt s.heap c vs.toArray) (V : TxtsV s.heap vs ts) (ht : ∀ t ∈ ts, t.length ≤ 1000 ∧ 10 ∉ t ∧ ∀ c ∈ t, Sign c) (hn : ts.length ≤ 1000) (hd : A.depth + 10 < recursionLimit) (hu : A.units + 60 < cLine) (hA : A.handled = none)
  (hret : ∀ h' tk' gs' t' ps', Grew [456] s.heap h' → h'.get? 456 = some (tabObj ps') → TriplesOk ps'.toList → (∃ gl : List GenState, (∀ y ∈ gl, y.bare = true) ∧ gs' = s.gens ++ gl.toArray) →
    Q (.bytes (enc (outT (ts.filter fun l => l != []))).toArray t') { s with heap := h', toks := tk', gens := gs' }) :
  wpAny (model PySem.Challenge.pw_be0022_01 w) A (call (.ref 461) [.ref c]) Q E s := by
  (have Dz := dum; revert Dz; k_fill; intro Dz; clear Dz)
  refine wpAny_call ?_
  (k_dflt (refine' enter _ ?k1 ?kb ?k6 ?k7 ?k8 ?k9 ?kl ?_ ?c2 ?c3 ?c4 ?c5; (case k1 => k_asm); (case kb => first | assumption | exact List.forall_mem_nil _); (case k6 => k_is); (case k7 => k_is); (case k8 => omega); (case k9 => first | exact BindsTo.of_eq rfl | (refine' binds_K (K := Mine.hd.heap_1 _) (Frag.In.keeps (Sits.X (by assumption)) (Sits.keep (by assumption))) rfl ?kd ?kr1 ?kr2 ?kr3; (case kd => k_is); (case kr1 => exact rfl); (case kr2 => exact rfl); (case kr3 => exact rfl))); (case c2 => decide); (case kl => exact locs rfl); (case c3 => exact rfl); (case c4 => exact rfl); (case c5 => exact rfl); k_whole); intro _ _ _ _ _ _ _ _; (try dsimp only); (try k_fold))
  rename_i gB LB hB _ _ _ _ _
  (repeat' (first | (k_unfold; (try dsimp only)) | ((fail_if_success with_reducible (first | refine st0 ?_ | refine st1 ?_ | refine st2 ?_ | refine st3 ?_ | refine st4 ?_ | refine st5 ?_ | refine st6 ?_ | refine st7 ?_ | refine st8 ?_ | refine st9 ?_ | refine st10 ?_)); walk1) | (dsimp only; (fail_if_success with_reducible (first | refine st0 ?_ | refine st1 ?_ | refine st2 ?_ | refine st3 ?_ | refine st4 ?_ | refine st5 ?_ | refine st6 ?_ | refine st7 ?_ | refine st8 ?_ | refine st9 ?_ | refine st10 ?_)); walk1) | (leave1; (try dsimp only)) | dsimp only | fail "no step"))
  rename Fr _ _ _ _ => F1
  rename News _ _ _ _ => N1
  rename Frag.In _ _ => X1
  rename Top _ _ _ _ _ _ => T1
  rename Under _ _ _ _ => U1
  have h456 := (hb _ (.head _)).1
  have hLs : LsAt gB c vs.toArray := by
    obtain ⟨d, n, e1, e2⟩ := H
    refine ⟨d, n, U1.up _ _ (fun q => ?_) e1, U1.up _ _ (fun q => ?_) e2⟩
    · rw [List.mem_singleton.mp q] at e1
      have := congrArg Obj.cls (Option.some.inj (h456.symm.trans e1)); cases this
    · rw [List.mem_singleton.mp q] at e2
      have := congrArg Obj.cls (Option.some.inj (h456.symm.trans e2)); cases this
  have V1 : TxtsV gB vs ts := by
    obtain ⟨objs, k1, k2⟩ := V.objs (L := 456) (fun o e => by
      have e3 := Option.some.inj (h456.symm.trans e)
      exact ⟨fun q => (by rw [q] at e3; have := congrArg Obj.cls e3; cases this), fun x t dx sl q => (by rw [q] at e3; have := congrArg Obj.cls e3; cases this)⟩)
    exact k2 gB fun p hp => U1.up _ _ (fun q => (k1 p hp).1.2 (List.mem_singleton.mp q)) (k1 p hp).1.1
  refine KBd.method_of _ (typeIs_bytes _ _ _) slot_bytes_join type_bytes_join KBd.noRef ?_
  (repeat' (first | (k_unfold; (try dsimp only)) | ((fail_if_success with_reducible (first | refine st0 ?_ | refine st1 ?_ | refine st2 ?_ | refine st3 ?_ | refine st4 ?_ | refine st5 ?_ | refine st6 ?_ | refine st7 ?_ | refine st8 ?_ | refine st9 ?_ | refine st10 ?_)); walk1) | (dsimp only; (fail_if_success with_reducible (first | refine st0 ?_ | refine st1 ?_ | refine st2 ?_ | refine st3 ?_ | refine st4 ?_ | refine st5 ?_ | refine st6 ?_ | refine st7 ?_ | refine st8 ?_ | refine st9 ?_ | refine st10 ?_)); walk1) | (leave1; (try dsimp only)) | dsimp only | fail "no step"))
  rename Fr _ _ _ _ => F1
  rename News _ _ _ _ => N1
  refine gen_make (c := 460) (P := 456) (cl := []) rfl hA rfl rfl (by decide) rfl rfl rfl (show A.depth + 1 < _ by omega) ?_ (fun _ => rfl)
  (repeat' (first | (k_unfold; (try dsimp only)) | ((fail_if_success with_reducible (first | refine st0 ?_ | refine st1 ?_ | refine st2 ?_ | refine st3 ?_ | refine st4 ?_ | refine st5 ?_ | refine st6 ?_ | refine st7 ?_ | refine st8 ?_ | refine st9 ?_ | refine st10 ?_)); walk1) | (dsimp only; (fail_if_success with_reducible (first | refine st0 ?_ | refine st1 ?_ | refine st2 ?_ | refine st3 ?_ | refine st4 ?_ | refine st5 ?_ | refine st6 ?_ | refine st7 ?_ | refine st8 ?_ | refine st9 ?_ | refine st10 ?_)); walk1) | (leave1; (try dsimp only)) | dsimp only | fail "no step"))
  rename Fr _ _ _ _ => F2
  rename News _ _ _ _ => N2
  refine ls_pyIter (X1.keeps F2.keep) (hLs.keeps F2.keep) ?_
  have k6 : ∀ b o, hB.get? b = some o → (hB.push { cls := .type "list_iterator", data := .fields #[.ref c, .int 0 0] }).get? b = some o := fun b o e => Heap.get?_push_of_some _ e
  have F6 := fr_up F2 k6
  have N6 := news_up N2 k6
  obtain ⟨bm, ob, M1⟩ := bmod_of_top T1
  have hP := (N6 _ (.head _)).1
  have CH := (codeHd_of_K (c := 460) (P := 456) X1 (by kernel_rfl)).keeps F6.keep
  refine ⟨T1.nolimit.keeps F6.keep, _, bm, ob, _, CH.code hP hps, CH.tab hP, M1.keeps F6.keep, ?_⟩
  intro code h₃ hx₃ hsz₃ htab₃
  have hI6 : (hB.push { cls := .type "list_iterator", data := .fields #[.ref c, .int 0 0] }).get? hB.objs.size = some { cls := .type "list_iterator", data := .fields #[.ref c, .int 0 0] } := Heap.get?_push_size _ rfl
  have lI : @LT.lt Nat _ 456 hB.objs.size := Heap.lt_size (N2 _ (.head _)).1
  have hI3 : h₃.get? hB.objs.size = some { cls := .type "list_iterator", data := .fields #[.ref c, .int 0 0] } := hx₃ _ _ (Nat.ne_of_gt lI) hI6
  have hne456 : ∀ b o, gB.get? b = some o → b ≠ 456 := fun b o e q => by rw [q, (N6 _ (.head _)).2.2] at e; cases e
  have hneI : ∀ b o, gB.get? b = some o → b ≠ hB.objs.size := fun b o e q => by
    have := F2.keep b o e
    rw [q] at this
    exact absurd (Heap.lt_size this) (Nat.lt_irrefl _)
  have st3 := fun b o e => hx₃ b o (hne456 b o e) (F6.keep b o e)
  have st2 := fun b o e => hideAll_get [hB.objs.size] (st3 b o e) (fun q => hneI b o e (List.mem_singleton.mp q))
  have lc : @LT.lt Nat _ c hB.objs.size := by obtain ⟨d, n, e, _⟩ := hLs; exact Heap.lt_size (F2.keep _ _ e)
  have hS3 : SeqAt h₃ c vs.toArray := (hLs.keeps st3).seq
  refine ⟨hB.objs.size, [hB.objs.size, c], [hB.objs.size], vs.toArray.size, fun i v => vs.toArray[i]? = some v, fun i h => h.IsListIter hB.objs.size c i ∧ SeqAt h c vs.toArray,
    keepP ts, fun i v _ => OctF ts i v, fun h => ∀ b o, (hideAll h₃ [hB.objs.size]).get? b = some o → h.get? b = some o, A.depth + 5, A.units + 30, rfl, fun A' hA' => walks_seq hA' _ _ (Nat.ne_of_lt lc) _, ⟨⟨_, hI3, rfl, rfl⟩, hS3⟩, ?fp, ?iv, ?iv2, ?qg, ?fin⟩
  case fp =>
    intro b hb
    rcases List.mem_cons.mp hb with rfl | hb
    · exact ⟨_, hI3⟩
    · rw [List.mem_singleton.mp hb]
      obtain ⟨o, n, e, _⟩ := hS3
      exact ⟨o, e⟩
  case iv =>
    intro h h' a1 a2 b o e
    have e3 := of_hideAll _ e
    refine a2 b o (Nat.ne_of_lt (Heap.lt_size e3)) (fun q => ?_) (fun q => ?_) (a1 b o e)
    · rw [hideAll_none _ q] at e; cases e
    · rw [q.1] at e3; cases e3
  case iv2 => exact fun h' a b o e => a b o (of_hideAll _ e)
  case qg => exact qg_to (X1.keeps st2) (T1.keeps st2) (Nat.le_of_eq (hideAll_size _ _)) (V1.keeps st2) ht (by omega) (by omega)
  case fin =>
    intro h₅ tk gs hgb hsz5 hC5 keep₅ hG
    obtain ⟨ps', C3, T3⟩ := htab₃
    have hps' : TriplesOk ps'.toList := by
      obtain ⟨_, _, _, _, _, _, _, _, _, _, _, _, _, _, _, _, _, _, _, ht, _⟩ := C3
      exact ht
    have lC : @LT.lt Nat _ hB.objs.size h₃.objs.size := Heap.lt_size hI3
    have F7 : Fr _ _ h₅ _ := ⟨(F6.ns.extBut hx₃ (Ne.symm (N6 _ (.head _)).2.1)).keeps keep₅, fun b o e => keep₅ b o (st3 b o e), F6.above⟩
    have N7 : News gB LB h₅ [(456, tabObj ps')] := fun p hp => by rw [List.mem_singleton.mp hp]; exact ⟨keep₅ _ _ T3.2, (N6 _ (.head _)).2⟩
    have hcs3 : ∃ o, h₃.get? cStatics = some o := by
      obtain ⟨_, ⟨o, _, _, e, _⟩, _⟩ := T1.nolimit
      exact ⟨o, st3 _ _ e⟩
    have hcsI : cStatics ≠ hB.objs.size := by
      obtain ⟨_, ⟨o, _, _, e, _⟩, _⟩ := T1.nolimit
      exact hneI _ _ e
    have hLI := F2.ns.lt
    clear F2 N2 F6 N6 CH hP
    (repeat' (first | (k_unfold; (try dsimp only)) | ((fail_if_success with_reducible (first | refine st0 ?_ | refine st1 ?_ | refine st2 ?_ | refine st3 ?_ | refine st4 ?_ | refine st5 ?_ | refine st6 ?_ | refine st7 ?_ | refine st8 ?_ | refine st9 ?_ | refine st10 ?_)); walk1) | (dsimp only; (fail_if_success with_reducible (first | refine st0 ?_ | refine st1 ?_ | refine st2 ?_ | refine st3 ?_ | refine st4 ?_ | refine st5 ?_ | refine st6 ?_ | refine st7 ?_ | refine st8 ?_ | refine st9 ?_ | refine st10 ?_)); walk1) | (leave1; (try dsimp only)) | dsimp only | fail "no step"))
    rename Fr _ _ _ _ => F8
    rename News _ _ _ _ => N8
    have hcs' : ¬ young h₃ cStatics := fun q => by obtain ⟨o, e⟩ := hcs3; rw [q.1] at e; cases e
    have hcC : cStatics ≠ h₃.objs.size := fun q => by
      obtain ⟨o, e⟩ := hcs3
      exact absurd (Heap.lt_size e) (by rw [q]; exact Nat.lt_irrefl _)
    have haw : h₃.objs.size + 1 ∉ [hB.objs.size] := fun q => absurd (List.mem_singleton.mp q) (Nat.ne_of_gt (Nat.lt_succ_of_lt lC))
    have hyo : ∀ b : Nat, ¬ young h₃ b → b < h₃.objs.size + 2 := by
      intro b hb
      rcases Nat.lt_or_ge b (h₃.objs.size + 2) with h | h
      · exact h
      · refine absurd ⟨Heap.get?_none_of_le (Nat.le_trans (Nat.le_add_right _ 2) h), ?_, ?_⟩ hb
        · exact Nat.ne_of_gt (Nat.lt_of_lt_of_le (Nat.lt_add_of_pos_right (by decide)) h)
        · exact Nat.ne_of_gt (Nat.lt_of_lt_of_le (Nat.lt_succ_self _) h)
    obtain ⟨A3, hA3⟩ : ∃ A3, A3 = (A.deeper (envX (Str.ofString "Contentlines.to_ical") { kind := ScopeKind.function, names := [(Str.ofString "self", NameKind.local)], isGenerator := false, isCoroutine := false } LB 461 (Value.ref 460) [])).in1.in1.in1 := ⟨_, rfl⟩
    have G1 := hG A3 (by rw [hA3]; exact hA) (by rw [hA3]; show A.depth + 1 ≤ _; omega) (by rw [hA3]; show A.units + 3 + 1 + 1 + 1 ≤ _; omega)
    have hroomA : A3.depth < recursionLimit := by rw [hA3]; show A.depth + 1 < _; omega
    have hA3h : A3.handled = none := by rw [hA3]; exact hA
    have W := GIs.walksS (prog := PySem.Challenge.pw_be0022_01) (w := w) (A := A3)
      (a := h₃.objs.size + 1) (C := h₃.objs.size) (g := s.gens.size) (ow := young h₃) (wr := [hB.objs.size]) (pz := keepP ts) (n₀ := vs.toArray.size) (N := h₃.objs.size + 2) (F := fun i v => OctF ts i v)
      hA3h hroomA (Nat.succ_ne_self _) haw hcC (fun q => hcsI (List.mem_singleton.mp q)) (fun q => q.2.2 rfl) hcs' hyo (fun b hb => by rw [List.mem_singleton.mp hb]; exact Nat.lt_of_lt_of_le lC (Nat.le_add_right _ 2)) (Nat.lt_add_of_pos_right (by decide))
    subst hA3
    refine bytes_join_gen W (fun i s G => G.1.typeIs) (G1.keeps (fun q => q.2.2 rfl) hcs' (fun _ _ _ e => e)) (fun b hb => by have := List.mem_range.mp hb; rw [hsz5]; exact this) (List.mem_range.mpr (Nat.lt_succ_self _)) ?hn ?hval ?hq
    case hn =>
      refine Nat.le_trans (passing_le _ _) ?_
      have := V.length
      simp only [List.size_toArray]
      omega
    case hval =>
      rintro i v ⟨j, _, u, rfl⟩
      exact ⟨_, u, rfl⟩
    case hq =>
      intro s' bs k1 g1 d1 o1 items
      have hbs : bs.map (·.1) = (ts.filter fun l => l != []).map fun t => (enc (fold t)).toArray := by
        rw [← passing_map, List.map_map]
        have hsz : vs.toArray.size = ts.length := by simp [V.length]
        rw [hsz] at items
        obtain ⟨i1, i2⟩ := items
        refine List.ext_getElem? fun j => ?_
        rw [List.getElem?_map, List.getElem?_map]
        cases q : bs[j]? with
        | none =>
          have h1 := List.getElem?_eq_none_iff.mp q
          rw [List.getElem?_eq_none (by simp at i1; omega)]
          rfl
        | some p =>
          obtain ⟨i, q1, u, q2⟩ := i2 j (.bytes p.1 p.2) (by simp [q])
          rw [q1]
          obtain ⟨b, u'⟩ := p
          cases q2
          rfl
      have hqs : ∀ t ∈ (ts.filter fun l => l != []), t.length ≤ 1000 := fun t h => (ht t (List.mem_filter.mp h).1).1
      have hql : (ts.filter fun l => l != []).length ≤ 1000 := Nat.le_trans (List.length_filter_le _ _) hn
      obtain ⟨f1, f2⟩ := join_fits hqs hql
      have hbl : bs.length = (ts.filter fun l => l != []).length := by have := congrArg List.length hbs; simpa using this
      rw [hbs, hbl]
      refine ⟨f1, by omega, fun t' k => ?_⟩
      obtain ⟨h9, gs9, d9, tk9, os9⟩ := s'
      obtain rfl : d9 = s.drawn := d1
      obtain rfl : os9 = s.os := o1
      obtain ⟨z, hz, rfl⟩ := gens_endQ hgb g1
      have hLC := Nat.lt_trans hLI lC
      have nin : ∀ b : Nat, b < hB.objs.size → b ∉ h₃.objs.size :: [hB.objs.size] := fun b hb q => by
        rcases List.mem_cons.mp q with q | q
        · exact Nat.ne_of_lt (Nat.lt_trans hb lC) q
        · exact Nat.ne_of_lt hb (List.mem_singleton.mp q)
      have F9 : Fr gB LB h9 _ := ⟨F8.ns.at' (fun o e => k1 _ o (nin _ hLI) e), fun b o e => k1 b o (fun q => by
        rcases List.mem_cons.mp q with q | q
        · exact Nat.ne_of_lt (Heap.lt_size (st3 b o e)) q
        · exact hneI b o e (List.mem_singleton.mp q)) (F8.keep b o e), F8.above⟩
      have N9 : News gB LB h9 [(456, tabObj ps')] := fun p hp => by rw [List.mem_singleton.mp hp]; exact ⟨k1 _ _ (nin _ lI) (N8 _ (.head _)).1, (N8 _ (.head _)).2⟩
      clear F8 N8 hG G1 W
      (repeat' (first | (k_unfold; (try dsimp only)) | ((fail_if_success with_reducible (first | refine st0 ?_ | refine st1 ?_ | refine st2 ?_ | refine st3 ?_ | refine st4 ?_ | refine st5 ?_ | refine st6 ?_ | refine st7 ?_ | refine st8 ?_ | refine st9 ?_ | refine st10 ?_)); walk1) | (dsimp only; (fail_if_success with_reducible (first | refine st0 ?_ | refine st1 ?_ | refine st2 ?_ | refine st3 ?_ | refine st4 ?_ | refine st5 ?_ | refine st6 ?_ | refine st7 ?_ | refine st8 ?_ | refine st9 ?_ | refine st10 ?_)); walk1) | (leave1; (try dsimp only)) | dsimp only | fail "no step"))
      refine KBy.add_bytes (by show _ + 2 ≤ _; omega) fun t2 k2 => ?_
      rw [joined_out]
      (repeat' (first | (k_unfold; (try dsimp only)) | ((fail_if_success with_reducible (first | refine st0 ?_ | refine st1 ?_ | refine st2 ?_ | refine st3 ?_ | refine st4 ?_ | refine st5 ?_ | refine st6 ?_ | refine st7 ?_ | refine st8 ?_ | refine st9 ?_ | refine st10 ?_)); walk1) | (dsimp only; (fail_if_success with_reducible (first | refine st0 ?_ | refine st1 ?_ | refine st2 ?_ | refine st3 ?_ | refine st4 ?_ | refine st5 ?_ | refine st6 ?_ | refine st7 ?_ | refine st8 ?_ | refine st9 ?_ | refine st10 ?_)); walk1) | (leave1; (try dsimp only)) | dsimp only | fail "no step"))
      rename Fr _ _ _ _ => F10
      rename News _ _ _ _ => N10
      exact hret h9 _ _ t2 ps' (U1.grew F10) (N10 _ (.head _)).1 hps' ⟨[z], fun y hy => by rw [List.mem_singleton.mp hy]; exact hz, rfl⟩
end
section
theorem fresh_Sc : True := by w_top off; trivial
open PySem.Builtin PySem.Builtin.Str PySem.W.X
section
variable {prog : Program} {w : World} {A : Around} {E : Value → Shared → Prop} {s : Shared} {c : Addr} {x : Str}
theorem meets_str : Meets («str.__str__» ⟨[.ref c], []⟩) (fun _ R s => ClAt s.heap c x ∧ x.length ≤ 1000000 ∧ R (.ok (.ret (.str x s.toks))) { s with toks := s.toks + 1 }) := by
  refine .of_wp fun prog w A R s h => ?_
  show wpAny _ _ ((do let s ← textOf (.ref c); pure (Value.ref c, s, ([] : List Value))) >>= _) _ _ _
  refine wpAny_bind (wpAny_bind (text_of h.1 (wpAny_pure ?_)))
  show wpAny _ _ (mkStr x >>= _) _ _ _
  exact wpAny_bind (wpAny_mkStr (wpAny_pure ⟨_, rfl, h.2.2⟩) (by rw [sizeLine_eq]; have := h.2.1; omega))
theorem strOf_cl {P : Params} {Q : Value → Shared → Prop} (hu : A.units < cLine) (X : (KK P).In s.heap) (hc : ClAt s.heap c x) (hx : x.length ≤ 1000000) (h : ∀ t' k, Q (.str x t') { s with toks := k }) : wpAny (model prog w) A (PySem.Builtin.Str.strOf (.ref c)) Q E s := by
  obtain ⟨_, I⟩ := cl_inst hc
  unfold PySem.Builtin.Str.strOf
  rw [show isExactStr (.ref c) = false from rfl]
  refine wpAny_bind (m := cRoomFor _ _) (wpAny_cRoomFor hu ?_)
  refine wpAny_bind (m := callSpecial? (.ref c) (Str.ofString "__str__")) (special_bi X I (cl_str P) PySem.F.slot_str_str.bind ?_)
  refine bi_call X I (cl_mro P) PySem.F.slot_str_str.plain k_str sp_str PySem.F.entry_str_str (PySem.F.args_str_str_1 _) meets_str ⟨hc, hx, ?_⟩
  exact wpAny_pure (h _ _)
theorem str_of_cl {P : Params} {Q : Value → Shared → Prop} (hu : A.in1.in1.units < cLine) (X : (KK P).In s.heap) (hc : ClAt s.heap c x) (hx : x.length ≤ 1000000) (h : ∀ t' k, Q (.str x t') { s with toks := k }) : wpAny (model prog w) A (call (.type "str") [.ref c]) Q E s :=
  callType_new PySem.F.called_str (by decide) (PySem.F.typeCall_str_1 _) (PySem.F.newCall_str_1 _) (fun obj => PySem.F.args_object_init_2 obj _) PySem.F.entry_str_new
    (meets_str_new (S := fun A R s => A.in1.units < cLine ∧ (KK P).In s.heap ∧ ClAt s.heap c x ∧ ∀ t' k, R (.ok (.ret (.str x t'))) { s with toks := k }) fun _ _ _ _ _ hq => strOf_cl hq.1 hq.2.1 hq.2.2.1 hx hq.2.2.2) ⟨hu, X, hc, fun t' k => ⟨typeIs_str _ _ _, h t' k⟩⟩
theorem str_of_text {P : Params} {v : Value} {Q : Value → Shared → Prop} (hu : A.in1.in1.units < cLine) (X : (KK P).In s.heap) (V : TextV s.heap v x) (hx : x.length ≤ 1000000) (h : ∀ t' k, Q (.str x t') { s with toks := k }) : wpAny (model prog w) A (call (.type "str") [v]) Q E s := by
  rcases V with ⟨t, rfl⟩ | ⟨c, rfl, hc⟩
  · exact PySem.P.str_of_str (h t s.toks)
  · exact str_of_cl hu X hc hx h
end
end
section
theorem fresh_Sq : True := by w_top off; trivial
/-- results that match turns -/
noncomputable def Matches (R : Nat → Value → Heap → Prop) (h : Heap) : List Nat → List Value → Prop
  | [], [] => True
  | i :: r, y :: ys => R i y h ∧ Matches R h r ys
  | _, _ => False
theorem Matches.mono {R : Nat → Value → Heap → Prop} {h h' : Heap} (k : ∀ i y, R i y h → R i y h') : ∀ {r : List Nat} {ys : List Value}, Matches R h r ys → Matches R h' r ys
  | [], [], _ => trivial
  | _ :: _, _ :: _, ⟨a, b⟩ => ⟨k _ _ a, Matches.mono k b⟩
  | [], _ :: _, x => x.elim
  | _ :: _, [], x => x.elim
theorem Matches.snoc {R : Nat → Value → Heap → Prop} {h : Heap} {i : Nat} {y : Value} (z : R i y h) : ∀ {r : List Nat} {ys : List Value}, Matches R h r ys → Matches R h (r ++ [i]) (ys ++ [y])
  | [], [], _ => ⟨z, trivial⟩
  | _ :: _, _ :: _, ⟨a, b⟩ => ⟨a, Matches.snoc z b⟩
  | [], _ :: _, x => x.elim
  | _ :: _, [], x => x.elim
theorem range_filter_succ (p : Nat → Bool) (i : Nat) : (List.range (i + 1)).filter p = (List.range i).filter p ++ if p i = true then [i] else [] := by
  rw [List.range_succ, List.filter_append]
  cases h : p i <;> simp [h]
section
variable {prog : Program} {w : World} {A : Around} {E : Value → Shared → Prop} {env : Env}
/-- what a comprehension over a sequence asks of its block -/
structure SeqBlock (prog : Program) (w : World) (A : Around) (env : Env) (scope : Scope) (cl : List (Str × Addr)) (x : Str) (ifs : List Expr) (elt : Expr) (p : Nat → Bool) (R : Nat → Value → Heap → Prop) (vs : List Value) (h₁ : Heap) (N : Nat) : Prop where
  tests : ∀ C s₃ m₃ (E' : Value → Shared → Prop) i v, vs[i]? = some v → Grew [] h₁ s₃.heap → N ≤ s₃.heap.objs.size → h₁.objs.size ≤ C → s₃.heap.Ns C m₃ → m₃ x = some v →
    wpAny (model prog w) A (forIn ifs true fun c r => if r = true then do let ok ← isTrue c (compEnvC scope cl C env) (eval c (compEnvC scope cl C env)); pure (ForInStep.yield ok) else pure (ForInStep.yield r))
      (fun ok s₄ => ok = p i ∧ Keeps s₃ s₄) E' s₃
  elt : ∀ C s₃ m₃ (E' : Value → Shared → Prop) i v, vs[i]? = some v → p i = true → Grew [] h₁ s₃.heap → N ≤ s₃.heap.objs.size → h₁.objs.size ≤ C → s₃.heap.Ns C m₃ → m₃ x = some v →
    wpAny (model prog w) A (eval elt (compEnvC scope cl C env)) (fun y s₄ => R i y s₄.heap ∧ Keeps s₃ s₄) E' s₃
  stay : ∀ i y h h', R i y h → (∀ b o, N ≤ b → h.get? b = some o → h'.get? b = some o) → R i y h'
theorem seq_comp {elt : Expr} {x : Str} {ifs : List Expr} {scope : Scope} {cl : List (Str × Addr)} {s₁ : Shared} {ax : Addr} {vs : List Value} {p : Nat → Bool} {R : Nat → Value → Heap → Prop} {Fin : Heap → List Value → Nat → Prop}
    (hh : A.handled = none) (hs : SeqAt s₁.heap ax vs.toArray) (hl : vs.length ≤ 100000) (B : SeqBlock prog w A env scope cl x ifs elt p R vs s₁.heap (s₁.heap.objs.size + 3))
    (hfin : ∀ h ys D, Grew [] s₁.heap h → h.get? D = some (listOf ys.toArray ys.length) → D = s₁.heap.objs.size + 1 → D + 1 < h.objs.size → Matches R h ((List.range vs.length).filter p) ys → Fin h ys D) :
    ∃ _ : CompJ prog w A env scope cl x ifs elt (.ref s₁.heap.objs.size) { s₁ with heap := s₁.heap.push { cls := .type "list_iterator", data := .fields #[.ref ax, .int 0 0] } } Fin, True := by
  have hlt : ax < s₁.heap.objs.size := by obtain ⟨o, n, e, _⟩ := hs; exact Heap.lt_size e
  have W := walks_seq (prog := prog) (w := w) hh s₁.heap.objs.size ax (Nat.ne_of_lt hlt) vs.toArray
  have hsz : (s₁.heap.push { cls := .type "list_iterator", data := .fields #[.ref ax, .int 0 0] }).objs.size = s₁.heap.objs.size + 1 := Heap.size_push _ _
  generalize hH : s₁.heap.push { cls := .type "list_iterator", data := .fields #[.ref ax, .int 0 0] } = H at hsz ⊢
  have old : ∀ b o, s₁.heap.get? b = some o → H.get? b = some o := fun b o e => hH ▸ Heap.get?_push_of_some _ e
  have hn : vs.toArray.size = vs.length := by simp
  refine ⟨{
      I := s₁.heap.objs.size
      fp := [s₁.heap.objs.size, ax]
      wr := [s₁.heap.objs.size]
      n := vs.length
      P := fun i v => vs.toArray[i]? = some v
      St := _
      J := fun i ys h => Grew [] s₁.heap h ∧ Matches R h ((List.range i).filter p) ys
      eqI := rfl
      W := hn ▸ W
      sz := by rw [sizeLine_eq]; omega
      st := ⟨⟨_, hH ▸ Heap.get?_push_size _ rfl, rfl, rfl⟩, let ⟨o, n, e, d⟩ := hs; ⟨o, n, old _ _ e, d⟩⟩
      lt := ?_
      J0 := ⟨⟨fun b o _ e => old b o e, by rw [hsz]; exact Nat.le_succ _⟩, trivial⟩
      Js := ?_
      turn := ?_
      fin := ?_ }, trivial⟩
  · intro b hb
    rw [hsz]
    rcases List.mem_cons.mp hb with rfl | hb
    · exact Nat.lt_succ_self _
    · rw [List.mem_singleton.mp hb]; exact Nat.lt_succ_of_lt hlt
  · rintro i ys h h' ⟨G1, r⟩ hk hs'
    have hk' : ∀ b o, b < s₁.heap.objs.size ∨ s₁.heap.objs.size + 3 ≤ b → h.get? b = some o → h'.get? b = some o := by
      intro b o lb e
      refine hk b o ?_ ?_ ?_ e
      · intro q
        rw [List.mem_singleton.mp q] at lb
        rcases lb with lb | lb
        · exact Nat.lt_irrefl _ lb
        · exact absurd lb (Nat.not_le.mpr (Nat.lt_add_of_pos_right (by decide)))
      · show b ≠ H.objs.size
        rw [hsz]
        intro q
        subst q
        rcases lb with lb | lb
        · exact absurd lb (Nat.not_lt.mpr (Nat.le_succ _))
        · exact absurd lb (Nat.not_le.mpr (Nat.add_lt_add_left (by decide) _))
      · show b ≠ H.objs.size + 1
        rw [hsz]
        intro q
        subst q
        rcases lb with lb | lb
        · exact absurd lb (Nat.not_lt.mpr (Nat.le_add_right _ 2))
        · exact absurd lb (Nat.not_le.mpr (Nat.add_lt_add_left (by decide) _))
    exact ⟨⟨fun b o hb e => hk' b o (.inl (Heap.lt_size e)) (G1.keep b o hb e), by have : H.objs.size ≤ h'.objs.size := hs'; omega⟩,
      r.mono fun i y z => B.stay _ _ _ _ z fun b o lb e => hk' b o (.inr lb) e⟩
  · rintro i v ys h tk m₁ E' hi hP ⟨G1, r⟩ hn₁ hm₁
    have hv : vs[i]? = some v := by simpa using hP
    have hN : s₁.heap.objs.size + 3 ≤ h.objs.size := by
      have e1 : H.objs.size + 1 < h.objs.size := hn₁.lt
      omega
    refine wpAny_mono (B.tests _ _ m₁ E' i v hv G1 hN (by rw [hsz]; exact Nat.le_add_right _ 2) hn₁ hm₁) (fun ok s₃ h₃ => ?_) fun _ _ e => e
    obtain ⟨rfl, h3, tk3, rfl, hk3⟩ := h₃
    have hN3 : s₁.heap.objs.size + 3 ≤ h3.objs.size := by
      have e1 : H.objs.size + 1 < h3.objs.size := (hn₁.at' (h' := h3) fun o e => hk3 _ o e).lt
      omega
    have G3 : Grew [] s₁.heap h3 := ⟨fun b o hb e => hk3 b o (G1.keep b o hb e), by omega⟩
    have r3 : Matches R h3 ((List.range i).filter p) ys := r.mono fun i y z => B.stay _ _ _ _ z fun b o _ e => hk3 b o e
    cases hp : p i with
    | false =>
      simp only [Bool.false_eq_true, if_false]
      exact TEnd.intro (fun b _ o e => hk3 b o e) ⟨G3, by rw [range_filter_succ, hp]; simpa using r3⟩
    | true =>
      simp only [if_true]
      refine wpAny_mono (B.elt _ _ m₁ E' i v hv hp G3 hN3 (by rw [hsz]; exact Nat.le_add_right _ 2) (hn₁.at' fun o e => hk3 _ o e) hm₁) (fun y s₄ h₄ => ?_) fun _ _ e => e
      obtain ⟨hR, h4, tk4, rfl, hk4⟩ := h₄
      refine TEnd.intro (fun b _ o e => hk4 b o (hk3 b o e)) ⟨⟨fun b o hb e => hk4 b o (G3.keep b o hb e), ?_⟩, ?_⟩
      · have e1 : H.objs.size + 1 < h4.objs.size := (hn₁.at' (h' := h4) fun o e => hk4 _ o (hk3 _ o e)).lt
        omega
      · rw [range_filter_succ, hp]
        exact (r3.mono fun i y z => B.stay _ _ _ _ z fun b o _ e => hk4 b o e).snoc hR
  · rintro h ys ⟨G1, r⟩ hD _ hs'
    exact hfin h ys _ G1 hD hsz hs' r
end
end
section
theorem fresh_Sw2 : True := by w_top off; trivial
section
variable {prog : Program} {w : World} {A : Around} {E : Value → Shared → Prop} {env : Env}
/-- how the source is walked -/
noncomputable def Walked (prog : Program) (w : World) (A : Around) (E : Value → Shared → Prop) (ax : Addr) (s₁ : Shared) : Prop :=
  ∀ Q : Value → Shared → Prop, Q (.ref s₁.heap.objs.size) { s₁ with heap := s₁.heap.push { cls := .type "list_iterator", data := .fields #[.ref ax, .int 0 0] } } → wpAny (model prog w) A (pyIter (.ref ax)) Q E s₁
theorem walked_list {ax : Addr} {s₁ : Shared} {its : Array Value} (h : s₁.heap.IsList ax its) : Walked prog w A E ax s₁ := fun _ hq => wpAny_pyIter_list h hq
theorem walked_ls {P : Params} {ax : Addr} {s₁ : Shared} {its : Array Value} (X : (KK P).In s₁.heap) (h : LsAt s₁.heap ax its) : Walked prog w A E ax s₁ := fun _ hq => ls_pyIter X h hq
theorem size_none {h : Heap} {k : Nat} : h.get? (h.objs.size + k) = none := Heap.get?_none_of_le (Nat.le_add_right _ _)
/-- what is asked once the source stands -/
noncomputable def SeqAsk (prog : Program) (w : World) (A : Around) (E : Value → Shared → Prop) (env : Env) (scope : Scope) (cl : List (Str × Addr)) (x : Str) (ifs : List Expr) (elt : Expr) (p : Nat → Bool) (R : Shared → Nat → Value → Heap → Prop) (Q : Value → Shared → Prop) (xv : Value) (s₁ : Shared) : Prop :=
  ∃ ax vs, xv = .ref ax ∧ SeqAt s₁.heap ax vs.toArray ∧ Walked prog w A E ax s₁ ∧ vs.length ≤ 100000 ∧ SeqBlock prog w A env scope cl x ifs elt p (R s₁) vs s₁.heap (s₁.heap.objs.size + 3) ∧
      ∀ D h' tk ys, h'.get? D = some (listOf ys.toArray ys.length) → s₁.heap.get? D = none → Matches (R s₁) h' ((List.range vs.length).filter p) ys → Grew [] s₁.heap h' → Q (.ref D) { s₁ with heap := h', toks := tk }
theorem SeqAsk.intro {env : Env} {scope : Scope} {cl : List (Str × Addr)} {x : Str} {ifs : List Expr} {elt : Expr} {p : Nat → Bool} {R : Shared → Nat → Value → Heap → Prop} {Q : Value → Shared → Prop} {s₁ : Shared} (ax : Addr) (vs : List Value)
    (h1 : SeqAt s₁.heap ax vs.toArray) (h2 : Walked prog w A E ax s₁) (h3 : vs.length ≤ 100000) (h4 : SeqBlock prog w A env scope cl x ifs elt p (R s₁) vs s₁.heap (s₁.heap.objs.size + 3))
    (h5 : ∀ D h' tk ys, h'.get? D = some (listOf ys.toArray ys.length) → s₁.heap.get? D = none → Matches (R s₁) h' ((List.range vs.length).filter p) ys → Grew [] s₁.heap h' → Q (.ref D) { s₁ with heap := h', toks := tk }) :
    SeqAsk prog w A E env scope cl x ifs elt p R Q (.ref ax) s₁ := ⟨ax, vs, rfl, h1, h2, h3, h4, h5⟩
theorem comp_seq {s : Shared} {elt iter : Expr} {x : Str} {px : Pos} {ifs : List Expr} {scope : Scope} {cl : List (Str × Addr)} {pos : Pos} {Q : Value → Shared → Prop} (p : Nat → Bool) (R : Shared → Nat → Value → Heap → Prop)
    (hh : A.handled = none) (hclos : closureFor scope env = pure cl) (hcell : ∀ y ∈ scope.names, y.2 ≠ .cell) (hkind : scope.kind = .function)
    (hnames : ∀ y ∈ scope.names, y.2 = .local → scope.names.lookup y.1 = some .local) (hx : scope.names.lookup x = some .local)
    (h : wpAny (model prog w) A (eval iter env) (SeqAsk prog w A E env scope cl x ifs elt p R Q) E s)
    (hs : ∀ x, foldedSetIterable iter env x = pure x := by intro _; rfl) :
    wpAny (model prog w) A (eval (.ListComp elt [⟨.Name x px, iter, ifs, 0⟩] scope pos) env) Q E s := by
  refine comp_eval hclos hcell hkind hnames hx (wpAny_mono h (fun xv s₁ h₁ => ?_) fun _ _ e => e) hs
  obtain ⟨ax, vs, rfl, hax, hw, hl, B, hQ⟩ := h₁
  refine hw _ (seq_comp hh hax hl B ?_)
  rintro h2 ys D G1 hD rfl hs2 r h' tk hk hsz'
  refine hQ _ h' tk ys (hk _ _ (Nat.ne_of_lt (Nat.lt_succ_self _)) hD) size_none (r.mono fun i y z => B.stay _ _ _ _ z fun b o lb e => hk b o (fun q => ?_) e) ⟨fun b o hb e => hk b o (fun q => ?_) (G1.keep b o hb e), by rw [hsz']; exact G1.size⟩
  · rw [q] at lb; exact absurd lb (Nat.not_le.mpr (Nat.lt_succ_self _))
  · have := Heap.lt_size e
    rw [q] at this; exact absurd this (Nat.not_lt.mpr (Nat.le_add_right _ 2))
/-- the same, the value stored in a local -/
noncomputable def SeqAskS (prog : Program) (w : World) (A : Around) (E : Value → Shared → Prop) (env : Env) (scope : Scope) (cl : List (Str × Addr)) (x y : Str) (ifs : List Expr) (elt : Expr) (p : Nat → Bool) (R : Shared → Nat → Value → Heap → Prop) (Q : Flow → Shared → Prop) (xv : Value) (s₁ : Shared) : Prop :=
  ∃ ax vs m, xv = .ref ax ∧ SeqAt s₁.heap ax vs.toArray ∧ Walked prog w A E ax s₁ ∧ vs.length ≤ 100000 ∧ SeqBlock prog w A env scope cl x ifs elt p (R s₁) vs s₁.heap (s₁.heap.objs.size + 3) ∧ s₁.heap.Ns env.locals m ∧
      ∀ D h' tk ys, h'.Ns env.locals (fun z => if z = y then some (.ref D) else m z) → h'.get? D = some (listOf ys.toArray ys.length) → s₁.heap.get? D = none → Matches (R s₁) h' ((List.range vs.length).filter p) ys → Grew [env.locals] s₁.heap h' → Q .next { s₁ with heap := h', toks := tk }
theorem SeqAskS.intro {env : Env} {scope : Scope} {cl : List (Str × Addr)} {x y : Str} {ifs : List Expr} {elt : Expr} {p : Nat → Bool} {R : Shared → Nat → Value → Heap → Prop} {Q : Flow → Shared → Prop} {s₁ : Shared} (ax : Addr) (vs : List Value) (m : Str → Option Value)
    (h1 : SeqAt s₁.heap ax vs.toArray) (h2 : Walked prog w A E ax s₁) (h3 : vs.length ≤ 100000) (h4 : SeqBlock prog w A env scope cl x ifs elt p (R s₁) vs s₁.heap (s₁.heap.objs.size + 3)) (h5 : s₁.heap.Ns env.locals m)
    (h6 : ∀ D h' tk ys, h'.Ns env.locals (fun z => if z = y then some (.ref D) else m z) → h'.get? D = some (listOf ys.toArray ys.length) → s₁.heap.get? D = none → Matches (R s₁) h' ((List.range vs.length).filter p) ys → Grew [env.locals] s₁.heap h' → Q .next { s₁ with heap := h', toks := tk }) :
    SeqAskS prog w A E env scope cl x y ifs elt p R Q (.ref ax) s₁ := ⟨ax, vs, m, rfl, h1, h2, h3, h4, h5, h6⟩
theorem comp_seq_store {s : Shared} {elt iter : Expr} {x y : Str} {px py : Pos} {ifs : List Expr} {scope : Scope} {cl : List (Str × Addr)} {pos spos : Pos} {Q : Flow → Shared → Prop} (p : Nat → Bool) (R : Shared → Nat → Value → Heap → Prop)
    (hh : A.handled = none) (hsw : swapsWith (.ListComp elt [⟨.Name x px, iter, ifs, 0⟩] scope pos) (some (.Name y py)) spos.line env = pure true) (hclos : closureFor scope env = pure cl) (hcell : ∀ y ∈ scope.names, y.2 ≠ .cell) (hkind : scope.kind = .function)
    (hnames : ∀ y ∈ scope.names, y.2 = .local → scope.names.lookup y.1 = some .local) (hx : scope.names.lookup x = some .local)
    (hy : env.kindOf y = some .local) (hp : (env.scope.kind == .class || (env.scope.kind == .module && env.locals != env.globals)) = false)
    (h : wpAny (model prog w) A (eval iter env) (SeqAskS prog w A E env scope cl x y ifs elt p R Q) E s)
    (hs : ∀ x, foldedSetIterable iter env x = pure x := by intro _; rfl) :
    wpAny (model prog w) A (exec (.Assign [.Name y py] (.ListComp elt [⟨.Name x px, iter, ifs, 0⟩] scope pos) spos) env) Q E s := by
  refine comp_store hsw hclos hcell hkind hnames hx hy hp (wpAny_mono h (fun xv s₁ h₁ => ?_) fun _ _ e => e) hs
  obtain ⟨ax, vs, m, rfl, hax, hw, hl, B, hm, hQ⟩ := h₁
  have lL := hm.lt
  refine hw _ (seq_comp hh hax hl B ?_)
  rintro h2 ys D G1 hD rfl hs2 r
  refine ⟨m, hm.at' (fun o e => G1.keep _ o (fun q => nomatch q) e), Nat.lt_succ_of_lt lL, fun h' tk hn hk hsz' => ?_⟩
  refine hQ _ h' tk ys hn (hk _ _ (Nat.ne_of_lt (Nat.lt_succ_self _)) (Nat.ne_of_gt (Nat.lt_succ_of_lt lL)) hD) size_none (r.mono fun i y z => B.stay _ _ _ _ z fun b o lb e => hk b o (fun q => ?_) (fun q => ?_) e)
    ⟨fun b o hb e => hk b o (fun q => ?_) (fun q => hb (List.mem_singleton.mpr q)) (G1.keep b o (fun q => nomatch q) e), by rw [hsz']; exact G1.size⟩
  · rw [q] at lb; exact absurd lb (Nat.not_le.mpr (Nat.lt_succ_self _))
  · rw [q] at lb; exact absurd lb (Nat.not_le.mpr (Nat.lt_of_lt_of_le lL (Nat.le_add_right _ _)))
  · have := Heap.lt_size e
    rw [q] at this; exact absurd this (Nat.not_lt.mpr (Nat.le_add_right _ 2))
end
end
section
theorem fresh_Bg : True := by w_top off; trivial
theorem mod_pos (z : Int) : 0 ≤ z.fmod (10 ^ Int.toNat 200) := by
  have h : (0 : Int) < 10 ^ Int.toNat 200 := Int.pow_pos (by decide)
  rw [Int.fmod_eq_emod_of_nonneg _ (Int.le_of_lt h)]
  exact Int.emod_nonneg _ (Int.ne_of_gt h)
theorem int_at {vs : List Value} {ns : List Int} (h : IntsAre vs ns) : ∀ {i : Nat} {v : Value}, vs[i]? = some v → ∃ y u, v = .int y u := by
  induction h with
  | nil => intro i v e; simp at e
  | cons y u t ih =>
    intro i v e
    cases i with
    | zero => simp at e; exact ⟨_, _, e.symm⟩
    | succ i => exact ih (by simpa using e)
set_option maxHeartbeats 8000000 in
theorem bag_spec {w : World} {mean : ExcName → Option Value} {mg mb : Str → Option Value} {h₀ : Heap} {s : Shared} {A : Around} {Q E : Value → Shared → Prop}
  {a : Addr} {vs : List Value} {ns : List Int}
  (S : Sits w mean mg mb h₀ s.heap) (hl : s.heap.IsList a vs.toArray) (hi : IntsAre vs ns) (hn : ns.length ≤ 63) (hd : A.depth + 1 < recursionLimit) (hu : A.units + 8 < cLine) (hA : A.handled = none)
  (hret : ∀ b h' tk' n, IsBag h' b n → 0 ≤ n → s.heap.get? b = none → Grew [] s.heap h' → Q (.ref b) { s with heap := h', toks := tk' }) :
  wpAny (model PySem.Challenge.pw_be0022_01 w) A (call (.ref 485) [.ref a]) Q E s := by
  (have Dz := dum; revert Dz; k_fill; intro Dz; clear Dz)
  refine wpAny_call ?_
  (k_dflt (refine' enter _ ?k1 ?kb ?k6 ?k7 ?k8 ?k9 ?kl ?_ ?c2 ?c3 ?c4 ?c5; (case k1 => k_asm); (case kb => first | assumption | exact List.forall_mem_nil _); (case k6 => k_is); (case k7 => k_is); (case k8 => omega); (case k9 => first | exact BindsTo.of_eq rfl | (refine' binds_K (K := Mine.hd.heap_1 _) (Frag.In.keeps (Sits.X (by assumption)) (Sits.keep (by assumption))) rfl ?kd ?kr1 ?kr2 ?kr3; (case kd => k_is); (case kr1 => exact rfl); (case kr2 => exact rfl); (case kr3 => exact rfl))); (case c2 => decide); (case kl => exact locs rfl); (case c3 => exact rfl); (case c4 => exact rfl); (case c5 => exact rfl); k_whole); intro _ _ _ _ _ _ _ _; (try dsimp only); (try k_fold))
  rename_i gB LB hB _ _ _ _ U1
  have hl1 : gB.IsList a vs.toArray := let ⟨o, e, r⟩ := hl; ⟨o, U1.up _ _ (fun q => nomatch q) e, r⟩
  (repeat' (first | (k_unfold; (try dsimp only)) | ((fail_if_success with_reducible (first | refine st0 ?_ | refine st1 ?_ | refine st2 ?_ | refine st3 ?_ | refine st4 ?_ | refine st5 ?_ | refine st6 ?_ | refine st7 ?_ | refine st8 ?_ | refine st9 ?_ | refine st10 ?_)); walk1) | (dsimp only; (fail_if_success with_reducible (first | refine st0 ?_ | refine st1 ?_ | refine st2 ?_ | refine st3 ?_ | refine st4 ?_ | refine st5 ?_ | refine st6 ?_ | refine st7 ?_ | refine st8 ?_ | refine st9 ?_ | refine st10 ?_)); walk1) | (leave1; (try dsimp only)) | dsimp only | fail "no step"))
  rename Fr _ _ _ _ => F1
  rename News _ _ _ _ => N1
  refine' For_invVF F1 rfl rfl ?_
  (repeat' (first | (k_unfold; (try dsimp only)) | ((fail_if_success with_reducible (first | refine st0 ?_ | refine st1 ?_ | refine st2 ?_ | refine st3 ?_ | refine st4 ?_ | refine st5 ?_ | refine st6 ?_ | refine st7 ?_ | refine st8 ?_ | refine st9 ?_ | refine st10 ?_)); walk1) | (dsimp only; (fail_if_success with_reducible (first | refine st0 ?_ | refine st1 ?_ | refine st2 ?_ | refine st3 ?_ | refine st4 ?_ | refine st5 ?_ | refine st6 ?_ | refine st7 ?_ | refine st8 ?_ | refine st9 ?_ | refine st10 ?_)); walk1) | (leave1; (try dsimp only)) | dsimp only | fail "no step"))
  rename Fr _ _ _ _ => F1
  rename News _ _ _ _ => N1
  rename IntsAre _ _ => I1
  refine' iter_items (news := []) (fun i m nx => (∃ z t, m (Str.ofString "n") = some (.int z t)) ∧ nx = []) hA (News.isList N1 (.head _)) (N1 _ (.head _)).2.1 F1 (fun _ h => (nomatch h)) (fun _ h => (nomatch h)) ?j0 ?turn ?done
  case j0 => exact ⟨⟨_, _, rfl⟩, rfl⟩
  case turn =>
    rintro i v m₁ news₁ h₁ tk₁ own hv hadr hoff ⟨⟨z, t, e1⟩, rfl⟩ F2 N2
    obtain ⟨y, u, rfl⟩ : ∃ y u, v = .int y u := by
      exact int_at I1 hv
    clear F1 N1
    rw [← if_at e1] at F2
    dsimp only at F2
    try k_fold
    (repeat' (first | (k_unfold; (try dsimp only)) | ((fail_if_success with_reducible (first | refine st0 ?_ | refine st1 ?_ | refine st2 ?_ | refine st3 ?_ | refine st4 ?_ | refine st5 ?_ | refine st6 ?_ | refine st7 ?_ | refine st8 ?_ | refine st9 ?_ | refine st10 ?_)); walk1) | (dsimp only; (fail_if_success with_reducible (first | refine st0 ?_ | refine st1 ?_ | refine st2 ?_ | refine st3 ?_ | refine st4 ?_ | refine st5 ?_ | refine st6 ?_ | refine st7 ?_ | refine st8 ?_ | refine st9 ?_ | refine st10 ?_)); walk1) | (leave1; (try dsimp only)) | dsimp only | fail "no step"))
    rename Fr _ _ _ _ => F3
    rename News _ _ _ _ => N3
    exact InvEndN.intro F3 N3 ⟨⟨_, _, rfl⟩, rfl⟩ rfl (fun _ h => (nomatch h)) fun p hp => hp
  case done =>
    rintro m₁ news₁ h₁ tk₁ ⟨⟨z, t, e1⟩, rfl⟩ F2 N2
    clear F1 N1
    rw [← if_at e1] at F2
    dsimp only at F2
    try k_fold
    (repeat' (first | (k_unfold; (try dsimp only)) | ((fail_if_success with_reducible (first | refine st0 ?_ | refine st1 ?_ | refine st2 ?_ | refine st3 ?_ | refine st4 ?_ | refine st5 ?_ | refine st6 ?_ | refine st7 ?_ | refine st8 ?_ | refine st9 ?_ | refine st10 ?_)); walk1) | (dsimp only; (fail_if_success with_reducible (first | refine st0 ?_ | refine st1 ?_ | refine st2 ?_ | refine st3 ?_ | refine st4 ?_ | refine st5 ?_ | refine st6 ?_ | refine st7 ?_ | refine st8 ?_ | refine st9 ?_ | refine st10 ?_)); walk1) | (leave1; (try dsimp only)) | dsimp only | fail "no step"))
    rename Fr _ _ _ _ => F3
    rename News _ _ _ _ => N3
    refine hret _ _ _ _ ⟨_, _, (N3 _ (.head _)).1⟩ (mod_pos _) ?_ (U1.grew F3)
    cases q : s.heap.get? _ with
    | none => rfl
    | some o =>
      have := U1.up _ o (fun z => nomatch z) q
      rw [(N3 _ (.head _)).2.2] at this; cases this
end
section
theorem fresh_Lr : True := by w_top off; trivial
section
variable {prog : Program} {w : World} {A : Around} {E : Value → Shared → Prop} {s : Shared} {env : Env} {h₀ : Heap} {x : Str} {body : List Stmt} {Q : Flow → Shared → Prop}
theorem range_size (n : Nat) : Builtin.Range.rangeSize 0 (n : Int) 1 = n := by
  rw [rangeSize_nat]
  omega
theorem range_small {n : Nat} (h : n ≤ 1000) : Builtin.Range.small 0 (n : Int) 1 = true := by
  exact small_one (by omega) (by omega) (by omega) (by omega)
/-- for k in range(n) -/
theorem iter_range {r : Addr} {n : Nat} {t u v : Tok} {m₀ : Str → Option Value} {news : List (Addr × Obj)} (J : Nat → (Str → Option Value) → List (Addr × Obj) → Prop) (hh : A.handled = none)
    (hr : IsRange s.heap r 0 (n : Int) 1 t u v) (hn : n ≤ 1000) (F : Fr h₀ env.locals s.heap m₀) (N : News h₀ env.locals s.heap news) (hj : J 0 m₀ news)
    (turn : ∀ i v m₁ news₁ h tk own, i < n → news₁.map (·.1) = news.map (·.1) → OwnOff own (news.map (·.1)) → J i m₁ news₁ → Fr h₀ env.locals h (fun y => if y = x then some v else m₁ y) → News h₀ env.locals h (news₁ ++ own) →
      wpAny (model prog w) A (execs body env) (InvPostN h₀ env.locals (J (i + 1)) own (news.map (·.1)) { s with heap := h, toks := tk } Q) E { s with heap := h, toks := tk })
    (done : ∀ m₁ news₁ h tk, J n m₁ news₁ → Fr h₀ env.locals h m₁ → News h₀ env.locals h news₁ → Q .next { s with heap := h, toks := tk }) :
    wpAny (model prog w) A (pyIter (.ref r)) (fun it s₂ => LoopAtV prog w A h₀ env x body Q E it s₂) E s := by
  refine wpAny_pyIter_range hr (range_small hn) ?_
  have new : h₀.get? s.heap.objs.size = none := by
    cases q : h₀.get? s.heap.objs.size with
    | none => rfl
    | some o' => exact absurd (Heap.lt_size (F.keep _ _ q)) (Nat.lt_irrefl _)
  refine loop_walks (s := { s with heap := s.heap.push _ }) (m₀ := m₀) (news := news) J (Walks.range (prog := prog) (w := w) hh s.heap.objs.size 0 1 n) ?_ ?_ ?_ (F.push _) (fun p hp => ⟨Heap.get?_push_of_some _ (N p hp).1, (N p hp).2⟩) ?_ hj ?_ ?_
  · intro q
    exact absurd F.ns.lt ((List.mem_singleton.mp q) ▸ Nat.lt_irrefl _)
  · intro b hb
    rw [List.mem_singleton.mp hb]; exact new
  · rw [range_size]
    exact Heap.get?_push_size _ rfl
  · intro p hp q
    exact absurd (Heap.lt_size (N p hp).1) ((List.mem_singleton.mp q) ▸ Nat.lt_irrefl _)
  · rintro i v m₁ news₁ h tk own hi hP hadr hoff hJ F₁ N₁
    exact turn i v m₁ news₁ h tk own hi hadr hoff hJ F₁ N₁
  · intro m₁ news₁ h tk hJ F₁ N₁
    exact done m₁ news₁ h tk hJ F₁ N₁
end
end
section
theorem fresh_Li : True := by w_top off; trivial
/-- what _law_line gives -/
structure RowOk (x : List Nat) (B : Nat) : Prop where
  plain : Plain x
  sign : ∀ c ∈ x, Sign c
  len : x.length ≤ B
noncomputable abbrev bagO (n : Int) (t : Tok) (e : Nat) : Obj := { cls := .type "list", data := .seq #[Value.int n t] e }
theorem bag_row {g h : Heap} {L b : Addr} {o : Obj} {news : List (Addr × Obj)} (N : News g L h news) (hm : (b, o) ∈ news) : ∀ p ∈ [(b, o)], h.get? p.1 = some p.2 ∧ g.get? p.1 = none := fun p hp => by
  rw [List.mem_singleton.mp hp]; exact ⟨(N _ hm).1, (N _ hm).2.2⟩
theorem bag_fr {g h h' : Heap} {L b : Addr} {m : Str → Option Value} {o : Obj} {news : List (Addr × Obj)} (F : Fr g L h m) (N : News g L h news) (hm : (b, o) ∈ news) (G : Grew [b] h h') : Fr g L h' m :=
  fr_grew F G (fun c hc => by rw [List.mem_singleton.mp hc]; exact (N _ hm).2.2) (fun q => (N _ hm).2.1 (List.mem_singleton.mp q).symm)
theorem news_upd {g h h' : Heap} {L b : Addr} {o o' : Obj} (pre post : List (Addr × Obj)) (N : News g L h (pre ++ (b, o) :: post)) (hne : ∀ p ∈ pre ++ post, p.1 ≠ b) (G : Grew [b] h h') (B : h'.get? b = some o') : News g L h' (pre ++ (b, o') :: post) := by
  intro p hp
  have key : p ∈ pre ++ post → h'.get? p.1 = some p.2 ∧ p.1 ≠ L ∧ g.get? p.1 = none := fun q => by
    have hm : p ∈ pre ++ (b, o) :: post := (List.mem_append.mp q).elim (fun h => List.mem_append.mpr (.inl h)) fun h => List.mem_append.mpr (.inr (.tail _ h))
    exact ⟨G.keep _ _ (fun z => hne p q (List.mem_singleton.mp z)) (N p hm).1, (N p hm).2⟩
  rcases List.mem_append.mp hp with h | h
  · exact key (List.mem_append.mpr (.inl h))
  · rcases List.mem_cons.mp h with rfl | h
    · exact ⟨B, (N _ (List.mem_append.mpr (.inr (.head _)))).2⟩
    · exact key (List.mem_append.mpr (.inr h))
/-- the signs of the table -/
structure SignTxt (j : Nat) (y : List Nat) : Prop where
  sign : ∀ c ∈ y, Sign c
  nl : 10 ∉ y
  len : y.length ≤ 4
  ne : y ≠ []
  head : j < 6 → ∀ c ∈ y.head?, c ≠ 32 ∧ c ≠ 9
noncomputable def SignsV (sv : Array Value) : Prop := sv.size = 8 ∧ ∀ j : Nat, j < 8 → ∃ y t, sv[j]? = some (.str (txt y) t) ∧ SignTxt j y
theorem signs_ok (t0 t1 t2 t3 t4 t5 t6 t7 : Tok) : SignsV #[.str (Str.ofString "a") t0, .str (Str.ofString ":") t1, .str (Str.ofString "é") t2, .str (Str.ofString "X-B;") t3, .str (Str.ofString "𝄞") t4, .str (Str.ofString "\\n") t5, .str (Str.ofString " ") t6, .str (Str.ofString "\t") t7] := by
  refine ⟨rfl, fun j hj => ?_⟩
  have mk : ∀ (y : List Nat) (j : Nat), (y.all (fun c => decide (c < 128 ∨ c = 233 ∨ c = 119070) && c != 10) && decide (y.length ≤ 4) && !y.isEmpty && (decide (6 ≤ j) || (y.head? != some 32 && y.head? != some 9))) = true → SignTxt j y := by
    intro y j h
    simp only [Bool.and_eq_true, List.all_eq_true, decide_eq_true_eq, bne_iff_ne, ne_eq, Bool.or_eq_true, Bool.not_eq_true', List.isEmpty_eq_false_iff] at h
    obtain ⟨⟨⟨h1, h2⟩, h3⟩, h4⟩ := h
    refine ⟨fun c hc => (h1 c hc).1, fun q => (h1 10 q).2 rfl, h2, h3, fun hj c hc => ?_⟩
    rcases h4 with h4 | h4
    · omega
    · exact ⟨fun q => h4.1 (by rw [← q]; exact hc), fun q => h4.2 (by rw [← q]; exact hc)⟩
  match j, hj with
  | 0, _ => exact ⟨[97], t0, by rw [show txt [97] = Str.ofString "a" from by decide +kernel]; rfl, mk _ _ (by decide)⟩
  | 1, _ => exact ⟨[58], t1, by rw [show txt [58] = Str.ofString ":" from by decide +kernel]; rfl, mk _ _ (by decide)⟩
  | 2, _ => exact ⟨[233], t2, by rw [show txt [233] = Str.ofString "é" from by decide +kernel]; rfl, mk _ _ (by decide)⟩
  | 3, _ => exact ⟨[88, 45, 66, 59], t3, by rw [show txt [88, 45, 66, 59] = Str.ofString "X-B;" from by decide +kernel]; rfl, mk _ _ (by decide)⟩
  | 4, _ => exact ⟨[119070], t4, by rw [show txt [119070] = Str.ofString "𝄞" from by decide +kernel]; rfl, mk _ _ (by decide)⟩
  | 5, _ => exact ⟨[92, 110], t5, by rw [show txt [92, 110] = Str.ofString "\\n" from by decide +kernel]; rfl, mk _ _ (by decide)⟩
  | 6, _ => exact ⟨[32], t6, by rw [show txt [32] = Str.ofString " " from by decide +kernel]; rfl, mk _ _ (by decide)⟩
  | 7, _ => exact ⟨[9], t7, by rw [show txt [9] = Str.ofString "\t" from by decide +kernel]; rfl, mk _ _ (by decide)⟩
/-- a text some times over -/
noncomputable def rep (k : Nat) (y : List Nat) : List Nat := (List.replicate k y).flatten
theorem fold_app : ∀ (k : Nat) (y : List Nat) (acc : Array Nat), (List.replicate k y.toArray).foldl (· ++ ·) acc = acc ++ (rep k y).toArray
  | 0, y, acc => by simp [rep]
  | k + 1, y, acc => by
    rw [List.replicate_succ, List.foldl_cons, fold_app k y, rep, rep, List.replicate_succ, List.flatten_cons]
    apply Array.ext'
    simp
theorem mul_txt {y : List Nat} {m : Int} (h1 : 1 ≤ m) : Txt.mul (txt y) m = txt (rep m.toNat y) := by
  unfold Txt.mul
  rw [if_neg (by omega)]
  split
  · rename_i h
    rcases Bool.or_eq_true_iff.mp h with h | h
    · have : m = 1 := by simpa using h
      subst this
      simp [rep]
    · rw [str_len_txt] at h
      have : y = [] := List.eq_nil_of_length_eq_zero (by simpa using h)
      subst this
      have : rep m.toNat [] = [] := by unfold rep; simp
      rw [this]
  · show (⟨(List.replicate m.toNat y.toArray).foldl (· ++ ·) #[]⟩ : Str) = _
    rw [fold_app]
    simp [txt]
theorem mul_ok {y : List Nat} {m : Int} (h1 : 1 ≤ m) (h2 : m ≤ 23) (hy : y.length ≤ 4) : MulOk (txt y) m := by
  refine ⟨by simp; omega, fun _ _ q => ?_, fun _ _ => ?_⟩
  · rw [str_len_txt] at q
    have : (4 : Int) ≤ (2 ^ 63 - 1) / m := Int.le_ediv_of_mul_le (by omega) (by omega)
    omega
  · unfold Builtin.Str.tooLong
    rw [sizeLine_eq, str_len_txt]
    have : y.length * m.toNat ≤ 4 * 23 := Nat.mul_le_mul hy (by omega)
    simp
    omega
theorem rep_mem {k : Nat} {y : List Nat} {c : Nat} (h : c ∈ rep k y) : c ∈ y := by
  unfold rep at h
  obtain ⟨l, hl, hc⟩ := List.mem_flatten.mp h
  rw [List.eq_of_mem_replicate hl] at hc
  exact hc
theorem rep_len (k : Nat) (y : List Nat) : (rep k y).length = k * y.length := by
  unfold rep
  simp
theorem rep_head {k : Nat} {y : List Nat} (hk : 0 < k) (hy : y ≠ []) : (rep k y).head? = y.head? := by
  obtain ⟨k, rfl⟩ : ∃ j, k = j + 1 := ⟨k - 1, by omega⟩
  unfold rep
  rw [List.replicate_succ, List.flatten_cons]
  cases y with
  | nil => exact absurd rfl hy
  | cons a r => rfl
theorem row_more {x y : List Nat} {i j k : Nat} (hx : RowOk x (92 * i)) (hy : SignTxt j y) (hk : 0 < k) (hk2 : k ≤ 23) (hj : x = [] → j < 6) : RowOk (x ++ rep k y) (92 * (i + 1)) := by
  refine ⟨⟨fun q => ?_, fun c hc => ?_⟩, fun c hc => ?_, ?_⟩
  · rcases List.mem_append.mp q with q | q
    · exact hx.plain.1 q
    · exact hy.nl (rep_mem q)
  · cases x with
    | nil =>
      rw [List.nil_append, rep_head hk hy.ne] at hc
      exact hy.head (hj rfl) c hc
    | cons a r => exact hx.plain.2 c hc
  · rcases List.mem_append.mp hc with q | q
    · exact hx.sign c q
    · exact hy.sign c (rep_mem q)
  · rw [List.length_append, rep_len]
    have h1 := hx.len
    have h2 := hy.len
    have : k * y.length ≤ 23 * 4 := Nat.mul_le_mul hk2 h2
    omega
set_option maxHeartbeats 8000000 in
theorem line_spec {w : World} {mean : ExcName → Option Value} {mg mb : Str → Option Value} {h₀ : Heap} {s : Shared} {A : Around} {Q E : Value → Shared → Prop}
  {b : Addr} {n : Int} {t : Tok} {e : Nat}
  (S : Sits w mean mg mb h₀ s.heap) (hb : ∀ p ∈ [(b, bagO n t e)], s.heap.get? p.1 = some p.2 ∧ h₀.get? p.1 = none)
  (hn : 0 ≤ n) (hd : A.depth + 2 < recursionLimit) (hu : A.units + 18 < cLine) (hA : A.handled = none)
  (hret : ∀ v h' tk' n' x, (∃ t, v = .str (txt x) t) → RowOk x 400 → IsBag h' b n' → 0 ≤ n' → Grew [b] s.heap h' → Q v { s with heap := h', toks := tk' }) :
  wpAny (model PySem.Challenge.pw_be0022_01 w) A (call (.ref 499) [.ref b]) Q E s := by
  (have Dz := dum; revert Dz; k_fill; intro Dz; clear Dz)
  refine wpAny_call ?_
  (k_dflt (refine' enter _ ?k1 ?kb ?k6 ?k7 ?k8 ?k9 ?kl ?_ ?c2 ?c3 ?c4 ?c5; (case k1 => k_asm); (case kb => first | assumption | exact List.forall_mem_nil _); (case k6 => k_is); (case k7 => k_is); (case k8 => omega); (case k9 => first | exact BindsTo.of_eq rfl | (refine' binds_K (K := Mine.hd.heap_1 _) (Frag.In.keeps (Sits.X (by assumption)) (Sits.keep (by assumption))) rfl ?kd ?kr1 ?kr2 ?kr3; (case kd => k_is); (case kr1 => exact rfl); (case kr2 => exact rfl); (case kr3 => exact rfl))); (case c2 => decide); (case kl => exact locs rfl); (case c3 => exact rfl); (case c4 => exact rfl); (case c5 => exact rfl); k_whole); intro _ _ _ _ _ _ _ _; (try dsimp only); (try k_fold))
  rename_i gB LB hB _ _ _ _ U1
  (repeat' (first | (k_unfold; (try dsimp only)) | ((fail_if_success with_reducible (first | refine st0 ?_ | refine st1 ?_ | refine st2 ?_ | refine st3 ?_ | refine st4 ?_ | refine st5 ?_ | refine st6 ?_ | refine st7 ?_ | refine st8 ?_ | refine st9 ?_ | refine st10 ?_ | refine st11 ?_ | refine st12 ?_)); walk1) | (dsimp only; (fail_if_success with_reducible (first | refine st0 ?_ | refine st1 ?_ | refine st2 ?_ | refine st3 ?_ | refine st4 ?_ | refine st5 ?_ | refine st6 ?_ | refine st7 ?_ | refine st8 ?_ | refine st9 ?_ | refine st10 ?_ | refine st11 ?_ | refine st12 ?_)); walk1) | (leave1; (try dsimp only)) | dsimp only | fail "no step"))
  rename Fr _ _ _ _ => F1
  refine' For_invVF F1 rfl rfl ?_
  (repeat' (first | (k_unfold; (try dsimp only)) | ((fail_if_success with_reducible (first | refine st0 ?_ | refine st1 ?_ | refine st2 ?_ | refine st3 ?_ | refine st4 ?_ | refine st5 ?_ | refine st6 ?_ | refine st7 ?_ | refine st8 ?_ | refine st9 ?_ | refine st10 ?_ | refine st11 ?_ | refine st12 ?_)); walk1) | (dsimp only; (fail_if_success with_reducible (first | refine st0 ?_ | refine st1 ?_ | refine st2 ?_ | refine st3 ?_ | refine st4 ?_ | refine st5 ?_ | refine st6 ?_ | refine st7 ?_ | refine st8 ?_ | refine st9 ?_ | refine st10 ?_ | refine st11 ?_ | refine st12 ?_)); walk1) | (leave1; (try dsimp only)) | dsimp only | fail "no step"))
  rename Fr _ _ _ _ => F1
  rename News _ _ _ _ => N1
  rename Frag.In _ _ => X1
  rename Top _ _ _ _ _ _ => T1
  rename (@LT.lt Nat _ b _) => lb
  obtain ⟨sa, hsae, lb⟩ : ∃ sa, sa = _ ∧ @LT.lt Nat _ b sa := ⟨_, rfl, lb⟩
  subst hsae
  refine draw_spec (sits_of F1 X1 T1) (bag_row N1 (.tail _ (.head _))) hn (by decide) (by decide) (show A.depth + 1 + 1 < _ by omega) (show A.units + 3 + 8 < _ by omega) ?_
  rintro v h2 tk2 ⟨u2, rfl⟩ ⟨t2, e2, B2⟩ G2
  replace F1 := bag_fr F1 N1 (.tail _ (.head _)) G2
  replace N1 := news_upd [_] [] N1 (fun p hp => by rw [List.mem_singleton.mp hp]; exact Nat.ne_of_gt lb) G2 B2
  clear G2 B2
  simp only [List.cons_append, List.nil_append] at N1
  (repeat' (first | (k_unfold; (try dsimp only)) | ((fail_if_success with_reducible (first | refine st0 ?_ | refine st1 ?_ | refine st2 ?_ | refine st3 ?_ | refine st4 ?_ | refine st5 ?_ | refine st6 ?_ | refine st7 ?_ | refine st8 ?_ | refine st9 ?_ | refine st10 ?_ | refine st11 ?_ | refine st12 ?_)); walk1) | (dsimp only; (fail_if_success with_reducible (first | refine st0 ?_ | refine st1 ?_ | refine st2 ?_ | refine st3 ?_ | refine st4 ?_ | refine st5 ?_ | refine st6 ?_ | refine st7 ?_ | refine st8 ?_ | refine st9 ?_ | refine st10 ?_ | refine st11 ?_ | refine st12 ?_)); walk1) | (leave1; (try dsimp only)) | dsimp only | fail "no step"))
  rename Fr _ _ _ _ => F1
  rename News _ _ _ _ => N1
  rename (IsRange _ _ _ _ _ _ _ _) => R1
  obtain ⟨sv, hsv, N1⟩ : ∃ sv, SignsV sv ∧ News gB LB _ [(_, W.listOf sv 0), (b, bagO _ _ _)] := ⟨_, signs_ok _ _ _ _ _ _ _ _, N1⟩
  have hk : n % 5 = ((n % 5).toNat : Int) := by have := Int.emod_nonneg n (show (5 : Int) ≠ 0 by decide); omega
  have hk5 : (n % 5).toNat < 5 := by have := Int.emod_lt_of_pos n (show (0 : Int) < 5 by decide); omega
  rw [hk] at R1
  have hn5 : 0 ≤ n / 5 := Int.ediv_nonneg hn (by decide)
  refine' iter_range (fun i m nx => ∃ x tx n t e, m (Str.ofString "signs") = some (.ref sa) ∧ m (Str.ofString "bag") = some (.ref b) ∧ m (Str.ofString "told") = some (.str (txt x) tx) ∧ nx = [(sa, W.listOf sv 0), (b, bagO n t e)] ∧ 0 ≤ n ∧ RowOk x (92 * i)) hA R1 (by omega) F1 N1 ?j0 ?turn ?done
  case j0 => exact ⟨[], _, _, _, _, rfl, rfl, rfl, rfl, hn5, ⟨⟨by simp, by simp⟩, by simp, by simp⟩⟩
  case turn =>
    rintro i v m₁ news₁ h₁ tk₁ own hi hadr hoff ⟨x, tx, n2, t3, e3, e1, e2, e4, rfl, hn2, hx⟩ F2 N2
    clear F1 N1
    rw [← if_at3 e1 e2 e4] at F2
    dsimp only at F2
    simp only [List.cons_append, List.nil_append] at N2
    try k_fold
    (repeat' (first | (k_unfold; (try dsimp only)) | ((fail_if_success with_reducible (first | refine st0 ?_ | refine st1 ?_ | refine st2 ?_ | refine st3 ?_ | refine st4 ?_ | refine st5 ?_ | refine st6 ?_ | refine st7 ?_ | refine st8 ?_ | refine st9 ?_ | refine st10 ?_ | refine st11 ?_ | refine st12 ?_)); walk1) | (dsimp only; (fail_if_success with_reducible (first | refine st0 ?_ | refine st1 ?_ | refine st2 ?_ | refine st3 ?_ | refine st4 ?_ | refine st5 ?_ | refine st6 ?_ | refine st7 ?_ | refine st8 ?_ | refine st9 ?_ | refine st10 ?_ | refine st11 ?_ | refine st12 ?_)); walk1) | (leave1; (try dsimp only)) | dsimp only | fail "no step"))
    rename Fr _ _ _ _ => F2
    rename News _ _ _ _ => N2
    have hown : ∀ p ∈ (sa, W.listOf sv 0) :: own, p.1 ≠ b := fun p hp => by
      rcases List.mem_cons.mp hp with rfl | hp
      · exact Nat.ne_of_gt lb
      · exact fun q => hoff p hp b (.tail _ (.head _)) q
    generalize hk1 : (6 + 2 * if (txt x != Str.ofString "") = true then 1 else 0 : Int) = k1
    have hk1b : k1 = 6 ∨ (k1 = 8 ∧ x ≠ []) := by
      rw [← hk1]
      by_cases hxe : x = []
      · subst hxe
        exact .inl (by decide +kernel)
      · right
        refine ⟨?_, hxe⟩
        rw [if_pos]
        rfl
        rw [bne_iff_ne]
        intro q
        exact hxe (txt_inj (q.trans (show Str.ofString "" = txt [] from by decide +kernel)))
    refine draw_spec (sits_of F2 X1 T1) (bag_row N2 (.tail _ (.head _))) hn2 (by omega) (by omega) (show A.depth + 1 + 1 < _ by omega) (show A.units + 3 + 8 < _ by omega) ?_
    rintro v2 h2 tk2 ⟨u2, rfl⟩ ⟨t4, e5, B2⟩ G2
    replace F2 := bag_fr F2 N2 (.tail _ (.head _)) G2
    replace N2 := news_upd [_] own N2 (fun p hp => hown p hp) G2 B2
    clear G2 B2
    simp only [List.cons_append, List.nil_append] at N2
    (repeat' (first | (k_unfold; (try dsimp only)) | ((fail_if_success with_reducible (first | refine st0 ?_ | refine st1 ?_ | refine st2 ?_ | refine st3 ?_ | refine st4 ?_ | refine st5 ?_ | refine st6 ?_ | refine st7 ?_ | refine st8 ?_ | refine st9 ?_ | refine st10 ?_ | refine st11 ?_ | refine st12 ?_)); walk1) | (dsimp only; (fail_if_success with_reducible (first | refine st0 ?_ | refine st1 ?_ | refine st2 ?_ | refine st3 ?_ | refine st4 ?_ | refine st5 ?_ | refine st6 ?_ | refine st7 ?_ | refine st8 ?_ | refine st9 ?_ | refine st10 ?_ | refine st11 ?_ | refine st12 ?_)); walk1) | (leave1; (try dsimp only)) | dsimp only | fail "no step"))
    have hm0 : 0 ≤ n2 % k1 := Int.emod_nonneg _ (by omega)
    have hm1 : n2 % k1 < k1 := Int.emod_lt_of_pos _ (by omega)
    obtain ⟨y, ty, hy1, hy⟩ := hsv.2 (n2 % k1).toNat (by omega)
    rename Fr _ _ _ _ => F2
    rename News _ _ _ _ => N2
    have hSL := News.isList N2 (.head _)
    refine tail_any hSL.typeIs slot_list_getitem.lookup (wpAny_getItem_list hSL hm0 (by omega) hy1 ?_) (by with_unfolding_all rfl)
    clear hSL
    (repeat' (first | (k_unfold; (try dsimp only)) | ((fail_if_success with_reducible (first | refine st0 ?_ | refine st1 ?_ | refine st2 ?_ | refine st3 ?_ | refine st4 ?_ | refine st5 ?_ | refine st6 ?_ | refine st7 ?_ | refine st8 ?_ | refine st9 ?_ | refine st10 ?_ | refine st11 ?_ | refine st12 ?_)); walk1) | (dsimp only; (fail_if_success with_reducible (first | refine st0 ?_ | refine st1 ?_ | refine st2 ?_ | refine st3 ?_ | refine st4 ?_ | refine st5 ?_ | refine st6 ?_ | refine st7 ?_ | refine st8 ?_ | refine st9 ?_ | refine st10 ?_ | refine st11 ?_ | refine st12 ?_)); walk1) | (leave1; (try dsimp only)) | dsimp only | fail "no step"))
    rename Fr _ _ _ _ => F2
    rename News _ _ _ _ => N2
    have hn3 : 0 ≤ n2 / k1 := Int.ediv_nonneg hn2 (by omega)
    refine draw_spec (sits_of F2 X1 T1) (bag_row N2 (.tail _ (.head _))) hn3 (by decide) (by decide) (show A.depth + 1 + 1 < _ by omega) (show A.units + 3 + 8 < _ by omega) ?_
    rintro v2 h2 tk2 ⟨u3, rfl⟩ ⟨t5, e6, B2⟩ G2
    replace F2 := bag_fr F2 N2 (.tail _ (.head _)) G2
    replace N2 := news_upd [_] own N2 (fun p hp => hown p hp) G2 B2
    clear G2 B2
    simp only [List.cons_append, List.nil_append] at N2
    have hn4 : 0 ≤ n2 / k1 / 3 := Int.ediv_nonneg hn3 (by decide)
    have hr3 : 0 ≤ n2 / k1 % 3 ∧ n2 / k1 % 3 < 3 := ⟨Int.emod_nonneg _ (by decide), Int.emod_lt_of_pos _ (by decide)⟩
    generalize n2 / k1 % 3 = r3 at hr3 ⊢
    generalize n2 / k1 / 3 = n4 at hn4 N2 ⊢
    (repeat' (first | (k_unfold; (try dsimp only)) | ((fail_if_success with_reducible (first | refine st0 ?_ | refine st1 ?_ | refine st2 ?_ | refine st3 ?_ | refine st4 ?_ | refine st5 ?_ | refine st6 ?_ | refine st7 ?_ | refine st8 ?_ | refine st9 ?_ | refine st10 ?_ | refine st11 ?_ | refine st12 ?_)); walk1) | (dsimp only; (fail_if_success with_reducible (first | refine st0 ?_ | refine st1 ?_ | refine st2 ?_ | refine st3 ?_ | refine st4 ?_ | refine st5 ?_ | refine st6 ?_ | refine st7 ?_ | refine st8 ?_ | refine st9 ?_ | refine st10 ?_ | refine st11 ?_ | refine st12 ?_)); walk1) | (leave1; (try dsimp only)) | dsimp only | fail "no step"))
    rename Fr _ _ _ _ => F2
    rename News _ _ _ _ => N2
    refine draw_spec (sits_of F2 X1 T1) (bag_row N2 (.tail _ (.head _))) hn4 (by decide) (by decide) (show A.depth + 1 + 1 < _ by omega) (show A.units + 3 + 8 < _ by omega) ?_
    rintro v2 h2 tk2 ⟨u4, rfl⟩ ⟨t6, e7, B2⟩ G2
    replace F2 := bag_fr F2 N2 (.tail _ (.head _)) G2
    replace N2 := news_upd [_] own N2 (fun p hp => hown p hp) G2 B2
    clear G2 B2
    simp only [List.cons_append, List.nil_append] at N2
    have hn5 : 0 ≤ n4 / 12 := Int.ediv_nonneg hn4 (by decide)
    have hr4 : 0 ≤ n4 % 12 ∧ n4 % 12 < 12 := ⟨Int.emod_nonneg _ (by decide), Int.emod_lt_of_pos _ (by decide)⟩
    generalize n4 % 12 = r4 at hr4 ⊢
    generalize n4 / 12 = n5 at hn5 N2 ⊢
    (repeat' (first | (k_unfold; (try dsimp only)) | ((fail_if_success with_reducible (first | refine st0 ?_ | refine st1 ?_ | refine st2 ?_ | refine st3 ?_ | refine st4 ?_ | refine st5 ?_ | refine st6 ?_ | refine st7 ?_ | refine st8 ?_ | refine st9 ?_ | refine st10 ?_ | refine st11 ?_ | refine st12 ?_)); walk1) | (dsimp only; (fail_if_success with_reducible (first | refine st0 ?_ | refine st1 ?_ | refine st2 ?_ | refine st3 ?_ | refine st4 ?_ | refine st5 ?_ | refine st6 ?_ | refine st7 ?_ | refine st8 ?_ | refine st9 ?_ | refine st10 ?_ | refine st11 ?_ | refine st12 ?_)); walk1) | (leave1; (try dsimp only)) | dsimp only | fail "no step"))
    have hm : 1 ≤ 1 + r3 * r4 ∧ 1 + r3 * r4 ≤ 23 := by
      have h1 : 0 ≤ r3 * r4 := Int.mul_nonneg hr3.1 hr4.1
      have h2 : r3 * r4 ≤ 2 * 11 := Int.mul_le_mul (by omega) (by omega) hr4.1 (by decide)
      omega
    refine SB.mul (mul_ok hm.1 hm.2 hy.len) fun t7 k7 => ?_
    rw [mul_txt hm.1]
    have hrow := row_more hx hy (k := (1 + r3 * r4).toNat) (by omega) (by omega) (fun q => by
      rcases hk1b with h | h
      · omega
      · exact absurd q h.2)
    have hxl := hx.len
    have hrl := hrow.len
    have hil : i < 5 := by omega
    have hsl : (txt x).length + (txt (rep (1 + r3 * r4).toNat y)).length ≤ 16777216 := by
      rw [str_len_txt, str_len_txt]
      rw [List.length_append] at hrl
      omega
    refine PyProof.Rows.add_str (fun t8 k8 => ?_) (by rw [sizeLine_eq]; exact hsl)
    rw [txt_append]
    (repeat' (first | (k_unfold; (try dsimp only)) | ((fail_if_success with_reducible (first | refine st0 ?_ | refine st1 ?_ | refine st2 ?_ | refine st3 ?_ | refine st4 ?_ | refine st5 ?_ | refine st6 ?_ | refine st7 ?_ | refine st8 ?_ | refine st9 ?_ | refine st10 ?_ | refine st11 ?_ | refine st12 ?_)); walk1) | (dsimp only; (fail_if_success with_reducible (first | refine st0 ?_ | refine st1 ?_ | refine st2 ?_ | refine st3 ?_ | refine st4 ?_ | refine st5 ?_ | refine st6 ?_ | refine st7 ?_ | refine st8 ?_ | refine st9 ?_ | refine st10 ?_ | refine st11 ?_ | refine st12 ?_)); walk1) | (leave1; (try dsimp only)) | dsimp only | fail "no step"))
    rename Fr _ _ _ _ => F2
    rename News _ _ _ _ => N2
    exact InvEndN.intro F2 N2 ⟨_, _, _, _, _, rfl, rfl, rfl, rfl, hn5, hrow⟩ rfl (fun p hp => by
      rcases List.mem_cons.mp hp with rfl | hp
      · exact .head _
      · rw [List.mem_singleton.mp hp]; exact .tail _ (.head _)) fun p hp => .tail _ (.tail _ hp)
  case done =>
    rintro m₁ news₁ h₁ tk₁ ⟨x, tx, n2, t3, e3, e1, e2, e4, rfl, hn2, hx⟩ F2 N2
    clear F1 N1
    rw [← if_at3 e1 e2 e4] at F2
    dsimp only at F2
    try k_fold
    (repeat' (first | (k_unfold; (try dsimp only)) | ((fail_if_success with_reducible (first | refine st0 ?_ | refine st1 ?_ | refine st2 ?_ | refine st3 ?_ | refine st4 ?_ | refine st5 ?_ | refine st6 ?_ | refine st7 ?_ | refine st8 ?_ | refine st9 ?_ | refine st10 ?_ | refine st11 ?_ | refine st12 ?_)); walk1) | (dsimp only; (fail_if_success with_reducible (first | refine st0 ?_ | refine st1 ?_ | refine st2 ?_ | refine st3 ?_ | refine st4 ?_ | refine st5 ?_ | refine st6 ?_ | refine st7 ?_ | refine st8 ?_ | refine st9 ?_ | refine st10 ?_ | refine st11 ?_ | refine st12 ?_)); walk1) | (leave1; (try dsimp only)) | dsimp only | fail "no step"))
    rename Fr _ _ _ _ => F2
    rename News _ _ _ _ => N2
    exact hret _ _ _ n2 x ⟨_, rfl⟩ ⟨hx.plain, hx.sign, Nat.le_trans hx.len (by omega)⟩ ⟨_, _, (N2 _ (.tail _ (.head _))).1⟩ hn2 (U1.grew F2)
end
section
theorem fresh_Le : True := by w_top off; trivial
section
variable {w : World} {mean : ExcName → Option Value} {mg mb : Str → Option Value} {h₀ : Heap} {s : Shared} {A : Around}
  {R : Result → Shared → Prop} {name qual : Str} {params : Arguments} {body : List Stmt} {scope : Scope} {dV kV doc pm cdv ct oc : Value} {an od : Option Addr} {osl : Array (Option Value)} {f : Addr} {args : Args} {binds : List (Str × Value)}
/-- entering a def with cells -/
theorem enterC (bs : List (Addr × Obj)) (S : Sits w mean mg mb h₀ s.heap) (hb : ∀ p ∈ bs, s.heap.get? p.1 = some p.2 ∧ h₀.get? p.1 = none)
    (ho : (Mine.hd.heap_1 w.params).lookup f = some ⟨oc, od, .func (fnX name qual params body scope [] dV kV doc pm an cdv ct), osl⟩) (hcd : codeIn (Mine.hd.heap_1 w.params) cdv qual = true) (hroom : A.depth < recursionLimit)
    (hbind : BindsTo s (fnX name qual params body scope [] dV kV doc pm an cdv ct) args binds) (hkind : (binds.all fun y => scope.names.lookup y.1 == some .local || scope.names.lookup y.1 == some .cell) = true)
    (hnd : ((cellsFrom 0 scope.names []).map (·.1)).Nodup)
    (h : ∀ g L' h₁ tk cells, Fr g L' h₁ (bindL (envOfC qual scope L' f cdv).kindOf binds fun _ => none) → News g L' h₁ (cells ++ bs) → CellsAre (bindC (envOfC qual scope L' f cdv).kindOf binds fun _ => none) (cellsFrom (L' + 1) scope.names []) cells →
      (Mine.hd.heap_1 w.params).In g → Top topProg LLoose mean mg mb g → Under bs s g L' → (∀ p ∈ bs, p.1 < L') →
      wpAny (model PySem.Challenge.pw_be0022_01 w) (A.deeper (envOfC qual scope L' f cdv)) (execs body (envOfC qual scope L' f cdv))
        (fun fl s' => R (.ok (.ret (match fl with | .ret v => v | _ => .none))) s') (fun _ _ => False) { s with heap := h₁, toks := tk })
    (hco : scope.isCoroutine = false) (hgen : scope.isGenerator = false) (hk : scope.kind = .function) :
    codeAny (model PySem.Challenge.pw_be0022_01 w) A (.call (.ref f) args) R s := by
  have st : h₀.StaysIn (hideAll s.heap (adr bs)) := fun b o e => hideAll_get _ (S.keep b o e) (fun q => by
    obtain ⟨p, hp, rfl⟩ := List.mem_map.mp q
    rw [(hb p hp).2] at e; cases e)
  have lim : s.heap.NoLimit := S.T.nolimit.keeps S.keep
  refine codeAny_call_function hroom (S.keep _ _ (S.X _ _ ho)) rfl hco hgen rfl (codeRec_of (S.X.keeps S.keep) hcd) (hbind _ _ _ _ ?_)
  refine wpAny_newFunctionEnv_cells hk (kindsX hkind _) fun env' he s' x => ?_
  subst he
  refine ⟨lim.keeps x.toInCall.keep, codeAny_func ?_⟩
  obtain ⟨h₁, tk, rfl, _⟩ := x.done
  have hk₁ := x.toInCall.keep
  obtain ⟨cells, NC, Y⟩ := Cl.news (h₀ := s.heap) (Nat.le_refl _) fun n c hm => ⟨x.cell n c (lookup_of_mem_nodup (cellsFrom_names scope.names 0 (s.heap.objs.size + 1) [] [] rfl ▸ hnd) hm), x.above n c hm⟩
  refine wpAny_mono (h (hideAll s.heap (adr bs)) s.heap.objs.size h₁ tk cells ⟨x.toInCall.ns, fun b o e => hk₁ b o (of_hideAll _ e), Nat.le_of_eq (hideAll_size _ _)⟩ (fun p hp => ?_) Y (S.X.keeps st) (S.T.keeps st)
    ⟨fun c o h1 h2 => hideAll_get _ h2 h1, fun c o e => of_hideAll _ e, rfl, fun p hp => Heap.lt_size (hb p hp).1⟩ (fun p hp => Heap.lt_size (hb p hp).1)) (fun _ _ x => x) fun _ _ x => x.elim
  rcases List.mem_append.mp hp with hp | hp
  · refine ⟨(NC p hp).1, (NC p hp).2.1, ?_⟩
    cases q : (hideAll s.heap (adr bs)).get? p.1 with
    | none => rfl
    | some o => have := of_hideAll _ q; rw [(NC p hp).2.2] at this; cases this
  · exact ⟨hk₁ _ _ (hb p hp).1, Nat.ne_of_lt (Heap.lt_size (hb p hp).1), hideAll_none _ (List.mem_map_of_mem hp)⟩
end
end
section
theorem fresh_Lc : True := by w_top off; trivial
section
variable {w : World} {A : Around} {E : Value → Shared → Prop} {env : Env}
/-- what is asked once the range stands -/
noncomputable def RowsAsk (gB : Heap) (b cellA : Addr) (env : Env) (y : Str) (Q : Flow → Shared → Prop) (xv : Value) (s₁ : Shared) : Prop :=
  ∃ (r : Addr) (k : Nat) (tr u v : Tok) (n : Int) (t : Tok) (e : Nat) (m : Str → Option Value), xv = .ref r ∧ IsRange s₁.heap r 0 ((k : Nat) : Int) 1 tr u v ∧ k ≤ 1000 ∧ (∀ b o, gB.get? b = some o → s₁.heap.get? b = some o) ∧ gB.objs.size ≤ s₁.heap.objs.size ∧
      s₁.heap.get? b = some (bagO n t e) ∧ 0 ≤ n ∧ (∃ oc, s₁.heap.get? cellA = some oc ∧ oc.data = .cell (some (.ref b))) ∧ s₁.heap.Ns env.locals m ∧
      ∀ D h' tk n t e (l : List (Str × Tok)) (xs : List (List Nat)), h'.Ns env.locals (fun z => if z = y then some (.ref D) else m z) → h'.get? D = some (txts l l.length) → s₁.heap.get? D = none → (∀ b' o, b' ≠ b → b' ≠ env.locals → s₁.heap.get? b' = some o → h'.get? b' = some o) → s₁.heap.objs.size ≤ h'.objs.size →
        h'.get? b = some (bagO n t e) → 0 ≤ n → l.map (·.1) = xs.map txt → (∀ x ∈ xs, RowOk x 400) → xs.length = k → Q .next { s₁ with heap := h', toks := tk }
theorem RowsAsk.intro {gB : Heap} {b cellA : Addr} {env : Env} {y : Str} {Q : Flow → Shared → Prop} {s₁ : Shared} {r : Addr} {k : Nat} {tr u v : Tok} {n : Int} {t : Tok} {e : Nat} {m : Str → Option Value} (h1 : IsRange s₁.heap r 0 ((k : Nat) : Int) 1 tr u v) (h2 : k ≤ 1000) (h3 : ∀ b o, gB.get? b = some o → s₁.heap.get? b = some o) (h4 : gB.objs.size ≤ s₁.heap.objs.size)
    (h5 : s₁.heap.get? b = some (bagO n t e)) (h6 : 0 ≤ n) (h7 : ∃ oc, s₁.heap.get? cellA = some oc ∧ oc.data = .cell (some (.ref b))) (h8 : s₁.heap.Ns env.locals m)
    (h9 : ∀ D h' tk n t e (l : List (Str × Tok)) (xs : List (List Nat)), h'.Ns env.locals (fun z => if z = y then some (.ref D) else m z) → h'.get? D = some (txts l l.length) → s₁.heap.get? D = none → (∀ b' o, b' ≠ b → b' ≠ env.locals → s₁.heap.get? b' = some o → h'.get? b' = some o) → s₁.heap.objs.size ≤ h'.objs.size →
        h'.get? b = some (bagO n t e) → 0 ≤ n → l.map (·.1) = xs.map txt → (∀ x ∈ xs, RowOk x 400) → xs.length = k → Q .next { s₁ with heap := h', toks := tk }) : RowsAsk gB b cellA env y Q (.ref r) s₁ :=
  ⟨r, k, tr, u, v, n, t, e, m, rfl, h1, h2, h3, h4, h5, h6, h7, h8, h9⟩
set_option maxHeartbeats 1000000 in
/-- the rows: a comprehension that draws from the bag -/
theorem comp_rows {mean : ExcName → Option Value} {mg mb : Str → Option Value} {gB : Heap} {s : Shared} {iter : Expr} {x y : Str} {px py p1 p2 p3 : Pos} {scope : Scope} {cl : List (Str × Addr)} {pos spos : Pos} {Q : Flow → Shared → Prop} {b cellA : Addr}
    (hh : A.handled = none) (hsw : swapsWith (.ListComp (.Call (.Name (Str.ofString "_law_line") p1) [.Name (Str.ofString "bag") p2] [] p3) [⟨.Name x px, iter, [], 0⟩] scope pos) (some (.Name y py)) spos.line env = pure true)
    (hclos : closureFor scope env = pure cl) (hcell : ∀ y ∈ scope.names, y.2 ≠ .cell) (hkind : scope.kind = .function)
    (hnames : ∀ y ∈ scope.names, y.2 = .local → scope.names.lookup y.1 = some .local) (hx : scope.names.lookup x = some .local)
    (hy : env.kindOf y = some .local) (hp : (env.scope.kind == .class || (env.scope.kind == .module && env.locals != env.globals)) = false)
    (X : (Mine.hd.heap_1 w.params).In gB) (T : Top topProg LLoose mean mg mb gB) (hb0 : gB.get? b = none) (hcb : cellA ≠ b) (hLb : env.locals ≠ b) (hg : env.globals = mainGlobals)
    (hk1 : ∀ C, (compEnvC scope cl C env).kindOf (Str.ofString "_law_line") = some .globalImplicit) (hk2 : ∀ C, (compEnvC scope cl C env).kindOf (Str.ofString "bag") = some .cell) (hcl : cl.lookup (Str.ofString "bag") = some cellA)
    (hd : A.depth + 4 < recursionLimit) (hu : A.units + 30 < cLine)
    (h : wpAny (model PySem.Challenge.pw_be0022_01 w) A (eval iter env) (RowsAsk gB b cellA env y Q) E s)
    (hs : ∀ x, foldedSetIterable iter env x = pure x := by intro _; rfl) :
    wpAny (model PySem.Challenge.pw_be0022_01 w) A (exec (.Assign [.Name y py] (.ListComp (.Call (.Name (Str.ofString "_law_line") p1) [.Name (Str.ofString "bag") p2] [] p3) [⟨.Name x px, iter, [], 0⟩] scope pos) spos) env) Q E s := by
  refine comp_store hsw hclos hcell hkind hnames hx hy hp (wpAny_mono h (fun xv s₁ h₁ => ?_) fun _ _ e => e) hs
  obtain ⟨r, k, t, u, v, n, tn, en, m, rfl, hr, hk, hkeep, hsize, hbag, hn, ⟨oc, hoc, hocd⟩, hm, hQ⟩ := h₁
  have lb : b < s₁.heap.objs.size := Heap.lt_size hbag
  have lL := hm.lt
  refine wpAny_pyIter_range hr (range_small hk) ?_
  have hsz : (s₁.heap.push { cls := .type "range_iterator", data := .fields #[rawInt 0, rawInt (Builtin.Range.rangeSize 0 (k : Int) 1), rawInt 1] }).objs.size = s₁.heap.objs.size + 1 := Heap.size_push _ _
  generalize hH : s₁.heap.push { cls := .type "range_iterator", data := .fields #[rawInt 0, rawInt (Builtin.Range.rangeSize 0 (k : Int) 1), rawInt 1] } = H at hsz ⊢
  have old : ∀ b o, s₁.heap.get? b = some o → H.get? b = some o := fun b o e => hH ▸ Heap.get?_push_of_some _ e
  refine ⟨{
      I := s₁.heap.objs.size
      fp := [s₁.heap.objs.size]
      wr := [s₁.heap.objs.size]
      n := k
      P := fun i v => ∃ t, v = .int (0 + i * 1) t
      St := _
      J := fun i ys h => Grew [b] s₁.heap h ∧ ∃ (n : Int) (t : Tok) (e : Nat) (l : List (Str × Tok)) (xs : List (List Nat)), h.get? b = some (bagO n t e) ∧ 0 ≤ n ∧ ys = strValues l ∧ l.map (·.1) = xs.map txt ∧ (∀ x ∈ xs, RowOk x 400) ∧ xs.length = i
      eqI := rfl
      W := Walks.range hh s₁.heap.objs.size 0 1 k
      sz := by rw [sizeLine_eq]; omega
      st := by
        show IsRangeIter H s₁.heap.objs.size _ _ _
        rw [← hH, range_size]
        exact Heap.get?_push_size _ rfl
      lt := ?_
      J0 := ⟨⟨fun b o _ e => old b o e, by rw [hsz]; exact Nat.le_succ _⟩, n, tn, en, [], [], old _ _ hbag, hn, rfl, rfl, fun _ h => (nomatch h), rfl⟩
      Js := ?_
      turn := ?_
      fin := ?_ }, trivial⟩
  · intro b hb
    rw [hsz, List.mem_singleton.mp hb]
    exact Nat.lt_succ_self _
  · rintro i ys h h' ⟨G1, n, t, e, l, xs, e1, e2⟩ hk hs'
    have hk' : ∀ b o, b < s₁.heap.objs.size → h.get? b = some o → h'.get? b = some o := by
      intro b o lb e
      refine hk b o ?_ ?_ ?_ e
      · intro q; rw [List.mem_singleton.mp q] at lb; exact Nat.lt_irrefl _ lb
      · show b ≠ H.objs.size; rw [hsz]; exact Nat.ne_of_lt (Nat.lt_succ_of_lt lb)
      · show b ≠ H.objs.size + 1; rw [hsz]; exact Nat.ne_of_lt (Nat.lt_succ_of_lt (Nat.lt_succ_of_lt lb))
    exact ⟨⟨fun b o hb e => hk' b o (Heap.lt_size e) (G1.keep b o hb e), by have : H.objs.size ≤ h'.objs.size := hs'; omega⟩, n, t, e, l, xs, hk' _ _ lb e1, e2⟩
  · rintro i v ys h tk m₁ E' hi hP ⟨G1, n, t, e, l, xs, e1, e2, rfl, e4, e5, e6⟩ hn₁ hm₁
    have hN : s₁.heap.objs.size + 3 ≤ h.objs.size := by
      have e1 : H.objs.size + 1 < h.objs.size := hn₁.lt
      omega
    rw [List.forIn_nil]
    refine wpAny_pure ?_
    rw [if_pos rfl]
    have kB : ∀ b o, gB.get? b = some o → h.get? b = some o := fun b' o e => G1.keep b' o (fun q => by rw [List.mem_singleton.mp q, hb0] at e; cases e) (hkeep b' o e)
    have S : Sits w mean mg mb gB h := ⟨kB, by omega, X, T⟩
    refine wpAny_Call_Name_kw (wpAny_Name (ks_loadName_global hkind (hk1 _) (loadGlobal_global (v := .ref 499) (by show Heap.Ns h env.globals mg; rw [hg]; exact T.g.keeps kB) (mg_of X T.g (by kernel_rfl)) ?_)))
    refine callWith_K X (by kernel_rfl) ?_
    refine spliced_more ?_
    refine wpAny_Name ?_
    refine wpAny_loadName_cell hkind (hk2 _) hcl ⟨oc, G1.keep _ _ (fun q => hcb (List.mem_singleton.mp q)) hoc, hocd⟩ ?_
    refine spliced_none ?_
    refine ⟨X.keeps kB, line_spec (s := { s₁ with heap := h, toks := tk }) S (fun p hp => by rw [List.mem_singleton.mp hp]; exact ⟨e1, hb0⟩) e2 (by omega) (by omega) hh fun y' h' tk' n' x' hy' hrow hbag' hn' G' => ?_⟩
    obtain ⟨ty, rfl⟩ := hy'
    obtain ⟨t', e', hbag'⟩ := hbag'
    refine TEnd.intro (fun b' hb' o eo => G'.keep b' o (fun q => ?_) eo) ⟨G1.trans G', n', t', e', l ++ [(txt x', ty)], xs ++ [x'], hbag', hn', by simp [strValues], by simp [e4], fun z hz => ?_, by simp [e6]⟩
    · rw [List.mem_singleton.mp q] at hb'
      rcases List.mem_cons.mp hb' with q2 | hb'
      · exact Nat.ne_of_lt (Nat.lt_of_lt_of_le lb (by rw [hsz]; exact Nat.le_succ _)) q2
      · rcases List.mem_cons.mp hb' with q2 | hb'
        · exact Nat.ne_of_lt (Nat.lt_of_lt_of_le lb (by rw [hsz]; exact Nat.le_add_right _ 2)) q2
        · exact Nat.ne_of_lt lb (List.mem_singleton.mp hb')
    · rcases List.mem_append.mp hz with hz | hz
      · exact e5 z hz
      · rw [List.mem_singleton.mp hz]; exact hrow
  · rintro h ys ⟨G1, n, t, e, l, xs, e1, e2, rfl, e4, e5, e6⟩ hD _ hs'
    have hD2 : H.objs.size ≠ H.objs.size + 1 := Nat.ne_of_lt (Nat.lt_succ_self _)
    have hLD : env.locals < H.objs.size := by rw [hsz]; exact Nat.lt_succ_of_lt lL
    refine ⟨m, hm.at' (fun o e => G1.keep _ o (fun q => hLb (List.mem_singleton.mp q)) e), hLD, fun h' tk hn' hk' hsz' => ?_⟩
    refine hQ H.objs.size h' tk n t e l xs hn' (by rw [hk' _ _ hD2 (Nat.ne_of_gt hLD) hD]; simp [txts, strValues]) (by rw [hsz]; exact size_none) (fun b' o h1 h2 e => hk' b' o ?_ h2 (G1.keep b' o (fun q => h1 (List.mem_singleton.mp q)) e)) (by rw [hsz']; exact G1.size) (hk' _ _ ?_ (Ne.symm hLb) e1) e2 e4 e5 e6
    · have := Heap.lt_size e
      rw [hsz]; exact Nat.ne_of_lt (Nat.lt_succ_of_lt (Nat.lt_succ_of_lt this))
    · rw [hsz]; exact Nat.ne_of_lt (Nat.lt_succ_of_lt (Nat.lt_succ_of_lt lb))
end
end
section
theorem fresh_Lk : True := by w_top off; trivial
/-- a Contentline that came at N or later -/
noncomputable def ElV (N : Nat) (xs : List (List Nat)) (i : Nat) (y : Value) (h : Heap) : Prop := ∃ e t dx sl, y = .ref e ∧ h.get? e = some (clO (txt (xs[i]?.getD [])) t dx sl) ∧ h.get? dx = some emptyDict ∧ N ≤ e ∧ N ≤ dx
noncomputable def StrR (xs : List (List Nat)) (i : Nat) (y : Value) (_ : Heap) : Prop := ∃ t, y = .str (txt (xs[i]?.getD [])) t
section
variable {w : World} {A : Around} {env : Env}
theorem cls_block {mean : ExcName → Option Value} {mg mb : Str → Option Value} {gB h₁ : Heap} {x : Str} {p1 p2 p3 : Pos} {scope : Scope} {cl : List (Str × Addr)} {vs : List Value} {xs : List (List Nat)}
    (hh : A.handled = none) (X : (Mine.hd.heap_1 w.params).In gB) (T : Top topProg LLoose mean mg mb gB) (hk : ∀ b o, gB.get? b = some o → h₁.get? b = some o) (hsz : gB.objs.size ≤ h₁.objs.size) (hg : env.globals = mainGlobals) (hkind : scope.kind = .function)
    (hk1 : ∀ C, (compEnvC scope cl C env).kindOf (Str.ofString "Contentline") = some .globalImplicit) (hk2 : ∀ C, (compEnvC scope cl C env).kindOf x = some .local) (hxd : (x == ("__debug__" : Str)) = false)
    (hv : ∀ (i : Nat) (v : Value), vs[i]? = some v → ∃ t, v = .str (txt (xs[i]?.getD [])) t) (hxs : ∀ x ∈ xs, 10 ∉ x ∧ x.length ≤ 100000) (hd : A.depth + 3 < recursionLimit) (hu : A.units + 20 < cLine) :
    SeqBlock PySem.Challenge.pw_be0022_01 w A env scope cl x [] (.Call (.Name (Str.ofString "Contentline") p1) [.Name x p2] [] p3) (fun _ => true) (ElV (h₁.objs.size + 3) xs) vs h₁ (h₁.objs.size + 3) where
  tests := by
    intro C s₃ m₃ E' i v hvi G hN _ hn hm
    rw [List.forIn_nil]
    exact wpAny_pure ⟨rfl, _, _, rfl, fun _ _ e => e⟩
  elt := by
    intro C s₃ m₃ E' i v hvi _ G hN _ hn hm
    obtain ⟨t, rfl⟩ := hv i v hvi
    have kB : ∀ b o, gB.get? b = some o → s₃.heap.get? b = some o := fun b o e => G.keep b o (fun q => nomatch q) (hk b o e)
    have S : Sits w mean mg mb gB s₃.heap := ⟨kB, Nat.le_trans hsz G.size, X, T⟩
    have hx : 10 ∉ xs[i]?.getD [] ∧ (xs[i]?.getD []).length ≤ 100000 := by
      cases q : xs[i]? with
      | none => exact ⟨by simp, by simp⟩
      | some z => exact hxs z (List.mem_of_getElem? q)
    refine wpAny_Call_Name_kw (wpAny_Name (ks_loadName_global hkind (hk1 _) (loadGlobal_global (v := .ref 443) (by show Heap.Ns s₃.heap env.globals mg; rw [hg]; exact T.g.keeps kB) (mg_of X T.g (by kernel_rfl)) ?_)))
    refine callWith_K X (by kernel_rfl) ?_
    refine spliced_more ?_
    refine wpAny_Name (wpAny_loadName_local hkind (hk2 _) hn hm ?_) hxd
    refine spliced_none ?_
    refine ⟨X.keeps kB, cl_make S hx.2 hx.1 hd hu hh fun c h' tk' _ _ G' hnew => ?_⟩
    obtain ⟨t', dx, sl, e1, e2, e3, e4⟩ := hnew
    exact ⟨⟨c, t', dx, sl, rfl, e1, e2, Nat.le_trans hN e3, Nat.le_trans hN e4⟩, _, _, rfl, fun b o e => G'.keep b o (fun q => nomatch q) e⟩
  stay := by
    rintro i y h h' ⟨e, t, dx, sl, rfl, e1, e2, e3, e4⟩ k
    exact ⟨e, t, dx, sl, rfl, k _ _ e3 e1, k _ _ e4 e2, e3, e4⟩
/-- str(one) -/
theorem str_block {mean : ExcName → Option Value} {mg mb : Str → Option Value} {gB h₁ : Heap} {x : Str} {p1 p2 p3 : Pos} {scope : Scope} {cl : List (Str × Addr)} {vs : List Value} {xs : List (List Nat)} {N : Nat}
    (X : (Mine.hd.heap_1 w.params).In gB) (T : Top topProg LLoose mean mg mb gB) (hk : ∀ b o, gB.get? b = some o → h₁.get? b = some o) (hg : env.globals = mainGlobals) (hbi : env.builtins = builtinsNs) (hkind : scope.kind = .function)
    (hk1 : ∀ C, (compEnvC scope cl C env).kindOf (Str.ofString "str") = some .globalImplicit) (hk2 : ∀ C, (compEnvC scope cl C env).kindOf x = some .local) (hxd : (x == ("__debug__" : Str)) = false)
    (V : TxtsV h₁ vs xs) (hxs : ∀ x ∈ xs, x.length ≤ 100000) (hu : A.in1.in1.units < cLine) :
    SeqBlock PySem.Challenge.pw_be0022_01 w A env scope cl x [] (.Call (.Name (Str.ofString "str") p1) [.Name x p2] [] p3) (fun _ => true) (StrR xs) vs h₁ N where
  tests := by
    intro C s₃ m₃ E' i v hvi G hN _ hn hm
    rw [List.forIn_nil]
    exact wpAny_pure ⟨rfl, _, _, rfl, fun _ _ e => e⟩
  elt := by
    intro C s₃ m₃ E' i v hvi _ G hN _ hn hm
    have kB : ∀ b o, gB.get? b = some o → s₃.heap.get? b = some o := fun b o e => G.keep b o (fun q => nomatch q) (hk b o e)
    obtain ⟨z, hz, hV⟩ := V.get i v hvi
    have hV' := hV.1.keeps fun b o e => G.keep b o (fun q => nomatch q) e
    refine wpAny_Call_Name_kw (wpAny_Name (ks_loadName_global hkind (hk1 _) (loadGlobal_builtin (by show Heap.Ns s₃.heap env.globals mg; rw [hg]; exact T.g.keeps kB) (mg_none_of X T.g (by kernel_rfl)) (by show Heap.Ns s₃.heap env.builtins mb; rw [hbi]; exact T.b.keeps kB) ((T.builtins _ (by decide +kernel)).trans (by first | boot_by_name | rfl | kernel_rfl)) ?_)))
    refine PyProof.Rows.callWith_type1 ?_
    refine spliced_more ?_
    refine wpAny_Name (wpAny_loadName_local hkind (hk2 _) hn hm ?_) hxd
    refine spliced_none ?_
    refine str_of_text hu (X.keeps kB) hV' (by rw [str_len_txt]; have := hxs z (List.mem_of_getElem? hz); omega) fun t' k => ?_
    exact ⟨⟨t', by rw [hz]; rfl⟩, _, _, rfl, fun _ _ e => e⟩
  stay := fun i y h h' z _ => z
end
end
section
theorem fresh_Lf : True := by w_top off; trivial
noncomputable def StrG (g : Nat → List Nat) (i : Nat) (y : Value) (_ : Heap) : Prop := ∃ t, y = .str (txt (g i)) t
theorem ne_empty (x : List Nat) : (txt x != Str.ofString "") = (x != []) := by
  rw [ofs_empty]
  by_cases h : x = []
  · subst h; simp
  · rw [bne_iff_ne.mpr h, bne_iff_ne.mpr fun q => h (txt_inj q)]
section
variable {w : World} {A : Around} {env : Env}
/-- row != '' -/
theorem ne_test {s₃ : Shared} {m₃ : Str → Option Value} {E' : Value → Shared → Prop} {x : Str} {p1 p2 p3 : Pos} {scope : Scope} {cl : List (Str × Addr)} {C : Addr} {z : List Nat} {t : Tok} {kd : _} (hkind : scope.kind = .function)
    (hk2 : (compEnvC scope cl C env).kindOf x = some .local) (hxd : (x == ("__debug__" : Str)) = false) (hn : s₃.heap.Ns C m₃) (hm : m₃ x = some (.str (txt z) t)) :
    wpAny (model PySem.Challenge.pw_be0022_01 w) A (forIn [Expr.Compare (.Name x p1) [.NotEq] [.Constant (.str (Str.ofString "")) kd p2] p3] true fun c r => if r = true then do let ok ← isTrue c (compEnvC scope cl C env) (eval c (compEnvC scope cl C env)); pure (ForInStep.yield ok) else pure (ForInStep.yield r))
      (fun ok s₄ => ok = (z != []) ∧ Keeps s₃ s₄) E' s₃ := by
  refine wpAny_tests_one (wpAny_isTrue_Compare1 (wpAny_Name (wpAny_loadName_local hkind hk2 hn hm ?_) hxd))
  refine wpAny_Constant_str ?_
  (repeat' (first | (k_unfold; (try dsimp only)) | ((fail_if_success with_reducible (first | refine st0 ?_ | refine st1 ?_ | refine st2 ?_ | refine st3 ?_ | refine st4 ?_ | refine st5 ?_ | refine st6 ?_ | refine st7 ?_ | refine st8 ?_ | refine st9 ?_ | refine st10 ?_ | refine st11 ?_ | refine st12 ?_)); walk1) | (dsimp only; (fail_if_success with_reducible (first | refine st0 ?_ | refine st1 ?_ | refine st2 ?_ | refine st3 ?_ | refine st4 ?_ | refine st5 ?_ | refine st6 ?_ | refine st7 ?_ | refine st8 ?_ | refine st9 ?_ | refine st10 ?_ | refine st11 ?_ | refine st12 ?_)); walk1) | (leave1; (try dsimp only)) | dsimp only | fail "no step"))
  · exact ne_empty z
  · exact ⟨_, _, rfl, fun _ _ e => e⟩
theorem fold_block {mean : ExcName → Option Value} {mg mb : Str → Option Value} {gB h₁ : Heap} {x : Str} {p1 p2 p3 p4 p5 p6 q1 q2 : Pos} {scope : Scope} {cl : List (Str × Addr)} {vs : List Value} {xs : List (List Nat)} {kd kd2 : _} {N : Nat}
    (hh : A.handled = none) (X : (Mine.hd.heap_1 w.params).In gB) (T : Top topProg LLoose mean mg mb gB) (hk : ∀ b o, gB.get? b = some o → h₁.get? b = some o) (hsz : gB.objs.size ≤ h₁.objs.size) (hg : env.globals = mainGlobals) (hkind : scope.kind = .function)
    (hk1 : ∀ C, (compEnvC scope cl C env).kindOf (Str.ofString "_foldline") = some .globalImplicit) (hk2 : ∀ C, (compEnvC scope cl C env).kindOf x = some .local) (hxd : (x == ("__debug__" : Str)) = false)
    (hv : ∀ (i : Nat) (v : Value), vs[i]? = some v → ∃ t, v = .str (txt (xs[i]?.getD [])) t) (hxs : ∀ x ∈ xs, RowOk x 400) (hd : A.depth + 3 < recursionLimit) (hu : A.units + 20 < cLine) :
    SeqBlock PySem.Challenge.pw_be0022_01 w A env scope cl x [Expr.Compare (.Name x p1) [.NotEq] [.Constant (.str (Str.ofString "")) kd p2] p3]
      (.BinOp (.Call (.Name (Str.ofString "_foldline") p4) [.Name x p5] [] p6) .Add (.Constant (.str (Str.ofString "\x0d\n")) kd2 q1) q2) (keepP xs) (StrG fun i => fold (xs[i]?.getD []) ++ [13, 10]) vs h₁ N where
  tests := by
    intro C s₃ m₃ E' i v hvi G hN _ hn hm
    obtain ⟨t, rfl⟩ := hv i v hvi
    exact ne_test hkind (hk2 _) hxd hn hm
  elt := by
    intro C s₃ m₃ E' i v hvi _ G hN _ hn hm
    obtain ⟨t, rfl⟩ := hv i v hvi
    have kB : ∀ b o, gB.get? b = some o → s₃.heap.get? b = some o := fun b o e => G.keep b o (fun q => nomatch q) (hk b o e)
    have S : Sits w mean mg mb gB s₃.heap := ⟨kB, Nat.le_trans hsz G.size, X, T⟩
    have hx : RowOk (xs[i]?.getD []) 400 := by
      cases q : xs[i]? with
      | none => exact ⟨⟨by simp, by simp⟩, by simp, by simp⟩
      | some z => exact hxs z (List.mem_of_getElem? q)
    refine wpAny_BinOp (wpAny_Call_Name_kw (wpAny_Name (ks_loadName_global hkind (hk1 _) (loadGlobal_global (v := .ref 186) (by show Heap.Ns s₃.heap env.globals mg; rw [hg]; exact T.g.keeps kB) (mg_of X T.g (by kernel_rfl)) ?_))))
    refine callWith_K X (by kernel_rfl) ?_
    refine spliced_more ?_
    refine wpAny_Name (wpAny_loadName_local hkind (hk2 _) hn hm ?_) hxd
    refine spliced_none ?_
    refine ⟨X.keeps kB, fold_spec S (.inl ⟨_, rfl⟩) (Nat.le_trans hx.len (by decide)) hx.plain.1 hx.sign (by omega) (by omega) hh fun v h' tk' hv' G' => ?_⟩
    obtain ⟨t', rfl⟩ := hv'
    refine wpAny_Constant_str ?_
    have hfl := fold_len (xs[i]?.getD [])
    have hxl := hx.len
    refine PyProof.Rows.add_str (fun t8 k8 => ?_) (by rw [sizeLine_eq, ofs_crnl, str_len_txt, str_len_txt]; simp only [List.length_cons, List.length_nil]; omega)
    rw [ofs_crnl, txt_append]
    exact ⟨⟨_, rfl⟩, _, _, rfl, fun b o e => G'.keep b o (fun q => nomatch q) e⟩
  stay := fun i y h h' z _ => z
theorem keep_block {h₁ : Heap} {x : Str} {p1 p2 p3 p4 : Pos} {scope : Scope} {cl : List (Str × Addr)} {vs : List Value} {xs : List (List Nat)} {kd : _} {N : Nat} (hkind : scope.kind = .function)
    (hk2 : ∀ C, (compEnvC scope cl C env).kindOf x = some .local) (hxd : (x == ("__debug__" : Str)) = false)
    (hv : ∀ (i : Nat) (v : Value), vs[i]? = some v → ∃ t, v = .str (txt (xs[i]?.getD [])) t) :
    SeqBlock PySem.Challenge.pw_be0022_01 w A env scope cl x [Expr.Compare (.Name x p1) [.NotEq] [.Constant (.str (Str.ofString "")) kd p2] p3] (.Name x p4) (keepP xs) (StrG fun i => xs[i]?.getD []) vs h₁ N where
  tests := by
    intro C s₃ m₃ E' i v hvi G hN _ hn hm
    obtain ⟨t, rfl⟩ := hv i v hvi
    exact ne_test hkind (hk2 _) hxd hn hm
  elt := by
    intro C s₃ m₃ E' i v hvi _ G hN _ hn hm
    obtain ⟨t, rfl⟩ := hv i v hvi
    refine wpAny_Name (wpAny_loadName_local hkind (hk2 _) hn hm ?_) hxd
    exact ⟨⟨_, rfl⟩, _, _, rfl, fun b o e => e⟩
  stay := fun i y h h' z _ => z
end
/-- results that are texts -/
theorem matches_strs {g : Nat → List Nat} {h : Heap} : ∀ {r : List Nat} {ys : List Value}, Matches (StrG g) h r ys → ∃ l : List (Str × Tok), ys = strValues l ∧ l.map (·.1) = (r.map g).map txt
  | [], [], _ => ⟨[], rfl, rfl⟩
  | i :: r, y :: ys, ⟨⟨t, a⟩, b⟩ => by
    obtain ⟨l, rfl, e⟩ := matches_strs b
    exact ⟨(txt (g i), t) :: l, by rw [a]; rfl, by simp [e]⟩
  | [], _ :: _, x => x.elim
  | _ :: _, [], x => x.elim
theorem kept_map (xs : List (List Nat)) (f : List Nat → List Nat) : ((List.range xs.length).filter (keepP xs)).map (fun i => f (xs[i]?.getD [])) = (xs.filter fun l => l != []).map f := by
  rw [← passing_map, List.map_map]
  unfold passing
  rw [List.drop_zero]
  rfl
theorem all_map (xs : List (List Nat)) : ((List.range xs.length).filter fun _ => true).map (fun i => xs[i]?.getD []) = xs := by
  rw [List.filter_eq_self.mpr (fun _ _ => rfl)]
  exact range_self xs
theorem texts_hv {l : List (Str × Tok)} {xs : List (List Nat)} (e : l.map (·.1) = xs.map txt) : ∀ (i : Nat) (v : Value), (strValues l)[i]? = some v → ∃ t, v = .str (txt (xs[i]?.getD [])) t := by
  intro i v hv
  have e1 := congrArg (·[i]?) e
  simp only [strValues, List.getElem?_map] at e1 hv
  cases q : l[i]? with
  | none => rw [q] at hv; cases hv
  | some z =>
    rw [q] at hv e1
    cases hv
    cases q2 : xs[i]? with
    | none => rw [q2] at e1; cases e1
    | some p =>
      rw [q2] at e1
      exact ⟨z.2, by show Value.str z.1 z.2 = Value.str (txt p) z.2; rw [show z.1 = txt p from Option.some.inj e1]⟩
theorem matches_els {N : Nat} {xs : List (List Nat)} {h : Heap} : ∀ {r : List Nat} {ys : List Value}, Matches (ElV N xs) h r ys → TxtsV h ys (r.map fun i => xs[i]?.getD [])
  | [], [], _ => trivial
  | i :: r, y :: ys, ⟨⟨e, t, dx, sl, a, e1, e2, _⟩, b⟩ => ⟨⟨.inr ⟨e, a, t, dx, sl, e1, e2⟩, fun _ => ⟨e, a⟩⟩, matches_els b⟩
  | [], _ :: _, x => x.elim
  | _ :: _, [], x => x.elim
end
section
theorem fresh_Ly : True := by w_top off; trivial
open PySem.W.X
theorem ls_toical (P : Params) : findIn (KK P) (.ref 474) "to_ical" = some (some (.ref 461)) := by kernel_rfl
theorem ls_toical_fn (P : Params) : typeIn (KK P) (.ref 461) = some (.type "function") := by kernel_rfl
theorem method_fnG {M : Model} {A : Around} {E : Value → Shared → Prop} {s : Shared} {K : Frag} {x C : Addr} {ox o : Obj} {name : Str} {f : Addr} {gi : String} {pl : Sem Bool} {Q : Value × List Value → Shared → Prop}
    (X : K.In s.heap) (I : InstAt s.heap x ox C (some o)) (hga : findIn K (.ref C) "__getattribute__" = some (some (.builtin gi))) (hcan : (Manifest.canonical gi != "object.__getattribute__") = false) (hk : findIn K (.ref C) "__getattr__" = some none)
    (hf : findIn K (.ref C) name = some (some (.ref f))) (ht : typeIn K (.ref f) = some (.type "function")) (hs : shadowIn (some o) name = some false) (h : Q (.ref f, [.ref x]) s) :
    wpAny M A (getMethod (.ref x) name pl) Q E s := by
  unfold getMethod specialOf
  refine wpAny_bind (wpAny_bind (I.type.here ((looks_findIn X hga).here ?_)))
  dsimp only
  rw [hcan, if_neg (by decide)]
  refine wpAny_bind (wpAny_bind (I.type.here ((looks_findIn X hk).here ?_)))
  refine wpAny_bind (wpAny_bind (I.type.here ((looks_findIn X hf).here (wpAny_bind ((looks_typeIn X ht).here ?_)))))
  rw [if_neg (by decide +kernel)]
  refine wpAny_bind (wpAny_loadPart I.at_ ?_)
  have hd := I.dict
  cases e : ox.dict with
  | none => exact wpAny_bind (wpAny_rule (wpAny_pure h))
  | some dx =>
    rw [e] at hd
    obtain ⟨r, a, b⟩ := Option.map_eq_some_iff.mp hs
    refine wpAny_bind (wpAny_bind (wpAny_loadPart hd ?_))
    rw [nsLook_of a]
    cases r with
    | some z => cases b
    | none => exact wpAny_pure (wpAny_bind (wpAny_rule (wpAny_pure h)))
theorem ls_method_toical {M : Model} {A : Around} {E : Value → Shared → Prop} {s : Shared} {P : Params} {c : Addr} {vs : Array Value} {pl : Sem Bool} {Q : Value × List Value → Shared → Prop} (X : (KK P).In s.heap) (H : LsAt s.heap c vs) (h : Q (.ref 461, [.ref c]) s) : wpAny M A (getMethod (.ref c) (Str.ofString "to_ical") pl) Q E s := by
  obtain ⟨_, I⟩ := ls_inst H
  exact method_fnG X I (ls_ga P) canon_list_ga (ls_gattr P) (ls_toical P) (ls_toical_fn P) (by kernel_rfl) h
end
section
theorem fresh_Lv : True := by w_top off; trivial
theorem u8_ne (c : Nat) : Str.utf8Of c ≠ [] := by
  unfold Str.utf8Of
  intro h
  have := congrArg List.length h
  revert this
  split
  · simp
  · split
    · simp
    · split <;> simp
theorem enc_ne {l : List Nat} (h : l ≠ []) : ∃ c cs, enc l = c :: cs := by
  cases l with
  | nil => exact absurd rfl h
  | cons a r =>
    have e : enc (a :: r) = Str.utf8Of a ++ enc r := rfl
    cases q : Str.utf8Of a with
    | nil => exact absurd q (u8_ne a)
    | cons c cs => exact ⟨c, cs ++ enc r, by rw [e, q]; rfl⟩
theorem ne_of_obj {g h : Heap} {L : Addr} {news : List (Addr × Obj)} (N : News g L h news) {p q : Addr × Obj} (hp : p ∈ news) (hq : q ∈ news) (hne : p.2 ≠ q.2) : p.1 ≠ q.1 := fun e => by
  have h1 := (N p hp).1
  rw [e, (N q hq).1] at h1
  exact hne (Option.some.inj h1).symm
theorem tab_ne_list {ps : Array Value} {its : Array Value} {e : Nat} : listOf its e ≠ tabObj ps := fun q => by have := congrArg Obj.cls q; cases this
theorem cell_ne_tab {o : Obj} {v : Option Value} {ps : Array Value} (h : o.data = .cell v) : o ≠ tabObj ps := fun q => by rw [q] at h; cases h
/-- the law's ledger: a list at hand, the bag, its cell, the two tables -/
noncomputable abbrev ledger (K b LB : Addr) (l : List (Str × Tok)) (ek : Nat) (n : Int) (t : Tok) (e : Nat) (oC : Obj) (ps qs : Array Value) : List (Addr × Obj) :=
  [(K, txts l ek), (b, bagO n t e), (LB + 1, oC), (463, tabObj ps), (456, tabObj qs)]
section
variable {g h h' : Heap} {L K b LB : Addr} {l : List (Str × Tok)} {n : Int} {t : Tok} {e ek : Nat} {oC : Obj} {ps qs ps' : Array Value} {v : Option Value}
theorem led463 (hcd : oC.data = .cell v) (N : News g L h (ledger K b LB l ek n t e oC ps qs)) (G : Grew [463] h h') (B : h'.get? 463 = some (tabObj ps')) : News g L h' (ledger K b LB l ek n t e oC ps' qs) :=
  news_upd [(K, txts l ek), (b, bagO n t e), (LB + 1, oC)] [(456, tabObj qs)] N (fun p hp => by
    rcases List.mem_cons.mp hp with rfl | hp
    · exact ne_of_obj N (.head _) (.tail _ (.tail _ (.tail _ (.head _)))) tab_ne_list
    rcases List.mem_cons.mp hp with rfl | hp
    · exact ne_of_obj N (.tail _ (.head _)) (.tail _ (.tail _ (.tail _ (.head _)))) tab_ne_list
    rcases List.mem_cons.mp hp with rfl | hp
    · exact ne_of_obj N (.tail _ (.tail _ (.head _))) (.tail _ (.tail _ (.tail _ (.head _)))) (cell_ne_tab hcd)
    rw [List.mem_singleton.mp hp]
    exact (by decide : (456 : Nat) ≠ 463)) G B
theorem led456 (hcd : oC.data = .cell v) (N : News g L h (ledger K b LB l ek n t e oC ps qs)) (G : Grew [456] h h') (B : h'.get? 456 = some (tabObj ps')) : News g L h' (ledger K b LB l ek n t e oC ps ps') :=
  news_upd [(K, txts l ek), (b, bagO n t e), (LB + 1, oC), (463, tabObj ps)] [] N (fun p hp => by
    rcases List.mem_cons.mp hp with rfl | hp
    · exact ne_of_obj N (.head _) (.tail _ (.tail _ (.tail _ (.tail _ (.head _))))) tab_ne_list
    rcases List.mem_cons.mp hp with rfl | hp
    · exact ne_of_obj N (.tail _ (.head _)) (.tail _ (.tail _ (.tail _ (.tail _ (.head _))))) tab_ne_list
    rcases List.mem_cons.mp hp with rfl | hp
    · exact ne_of_obj N (.tail _ (.tail _ (.head _))) (.tail _ (.tail _ (.tail _ (.tail _ (.head _))))) (cell_ne_tab hcd)
    rw [List.mem_singleton.mp hp]
    exact (by decide : (463 : Nat) ≠ 456)) G B
end
theorem led_bne {g h : Heap} {L b LB : Addr} {n : Int} {t : Tok} {e : Nat} {oC : Obj} {ps qs : Array Value} {v : Option Value} (hcd : oC.data = .cell v) (N : News g L h [(b, bagO n t e), (LB + 1, oC), (463, tabObj ps), (456, tabObj qs)]) :
    ∀ p ∈ [(LB + 1, oC), ((463 : Addr), tabObj ps), (456, tabObj qs)], p.1 ≠ b := by
  intro p hp
  refine ne_of_obj N (.tail _ hp) (.head _) ?_
  rcases List.mem_cons.mp hp with rfl | hp
  · intro q; rw [show oC = bagO n t e from q] at hcd; cases hcd
  rcases List.mem_cons.mp hp with rfl | hp
  · exact fun q => tab_ne_list q.symm
  rw [List.mem_singleton.mp hp]
  exact fun q => tab_ne_list q.symm
theorem kept_news {g h : Heap} {L KD : Addr} {t : Tok} {l12 : List (Str × Tok)} {fs : List (List Nat)} {r1 r2 r3 : Addr × Obj} {rest : List (Addr × Obj)} (e12 : l12.map (·.1) = fs.map txt)
    (N : News g L h ((KD, { cls := .type "list", data := .seq (strValues l12 ++ [Value.str (Str.ofString "") t]).toArray }) :: r1 :: r2 :: r3 :: rest)) :
    ∃ (K : Addr) (lk : List (Str × Tok)), K = KD ∧ lk.map (·.1) = (fs ++ [[]]).map txt ∧ News g L h ((K, txts lk 0) :: rest) := by
  refine ⟨KD, l12 ++ [(Str.ofString "", t)], rfl, by rw [List.map_append, List.map_append, e12, ofs_empty]; rfl, fun p hp => ?_⟩
  rcases List.mem_cons.mp hp with rfl | hp
  · have := N _ (.head _)
    simpa [txts, strValues] using this
  · exact N p (.tail _ (.tail _ (.tail _ (.tail _ hp))))
/-- the plain law: what was written is read back -/
theorem lines_out {fs : List (List Nat)} (hn : ∀ t ∈ fs, t ≠ []) (hp : ∀ t ∈ fs, Plain t) : full (unf (outT fs)) ++ [[]] = fs ++ [[]] := by
  show lines (unf (outT fs)) = _
  unfold outT
  split
  · rename_i h
    rw [h]
    exact lines_none
  · exact lines_body hn hp
end
section
theorem fresh_Kl : True := by w_top off; trivial
open PyProof.V
theorem ks_canLayAll0 : ∀ ss : List Str, (∀ x ∈ ss, PyData.strOk x = true) → PyData.canLayAll0 (ss.map PyData.str) = true
  | [], _ => rfl
  | x :: r, h => by simp [PyData.canLayAll0, PyData.canLay0, h x (.head _), ks_canLayAll0 r fun y hy => h y (.tail _ hy)]
theorem ks_depthAll : ∀ ss : List Str, PyData.depthAll (ss.map PyData.str) = 0
  | [] => rfl
  | _ :: r => by simp [PyData.depthAll, PyData.depth, ks_depthAll r]
theorem ks_shaped (ss : List Str) (h : ∀ x ∈ ss, PyData.strOk x = true) : SeqAt.shaped (.list (ss.map PyData.str)) = true := by
  simp [SeqAt.shaped, PyData.canLay0, PyData.depth, ks_canLayAll0 ss h, ks_depthAll]
theorem ks_sameAll : ∀ ss zs : List Str, PySem.Spec.sameAll (ss.map PyData.str) (zs.map PyData.str) = decide (ss = zs)
  | [], [] => by simp [PySem.Spec.sameAll]
  | [], _ :: _ => by simp [PySem.Spec.sameAll]
  | _ :: _, [] => by simp [PySem.Spec.sameAll]
  | a :: r, b :: t => by
    simp only [List.map_cons, PySem.Spec.sameAll, PySem.Spec.same, ks_sameAll r t]
    by_cases h : a = b <;> by_cases h' : r = t <;> simp [h, h']
theorem ks_same (ss zs : List Str) : PySem.Spec.same (.list (ss.map PyData.str)) (.list (zs.map PyData.str)) = decide (ss = zs) := by
  simp only [PySem.Spec.same]; exact ks_sameAll ss zs
theorem ks_carried : ∀ l : List (Str × Tok), CarriedAll (strValues l) ((l.map (·.1)).map PyData.str)
  | [] => .nil
  | (x, t) :: r => .cons (.str x t) (ks_carried r)
section
variable {prog : Program} {w : World} {A : Around} {E : Value → Shared → Prop} {s : Shared} {a b : Addr} {l k : List (Str × Tok)} {e e' : Nat} {Q : Value → Shared → Prop}
theorem ks_ne (ha : s.heap.get? a = some (txts l e)) (hb : s.heap.get? b = some (txts k e')) (hl : ∀ x ∈ l.map (·.1), PyData.strOk x = true) (hk : ∀ x ∈ k.map (·.1), PyData.strOk x = true) (hu : A.units + 64 < cLine) (h : Q (.bool (!decide (l.map (·.1) = k.map (·.1)))) s) :
    wpAny (model prog w) A (compareOp .NotEq (.ref a) (.ref b)) Q E s :=
  ne_dataH_same (reads_newData (ys := strValues l) ⟨_, ha, rfl, _, rfl⟩ (ks_carried l)) (reads_newData (ys := strValues k) ⟨_, hb, rfl, _, rfl⟩ (ks_carried k)) (ks_shaped _ hl) (ks_shaped _ hk) hu (SeqAt.noMix_of_shape (.list .str) rfl _ _ (list_map_has fun _ => rfl) (list_map_has fun _ => rfl)) (by rw [ks_same]; exact h)
theorem ks_eq (ha : s.heap.get? a = some (txts l e)) (hb : s.heap.get? b = some (txts k e')) (hl : ∀ x ∈ l.map (·.1), PyData.strOk x = true) (hk : ∀ x ∈ k.map (·.1), PyData.strOk x = true) (hu : A.units + 64 < cLine) (h : Q (.bool (decide (l.map (·.1) = k.map (·.1)))) s) :
    wpAny (model prog w) A (compareOp .Eq (.ref a) (.ref b)) Q E s :=
  eq_dataH_same (reads_newData (ys := strValues l) ⟨_, ha, rfl, _, rfl⟩ (ks_carried l)) (reads_newData (ys := strValues k) ⟨_, hb, rfl, _, rfl⟩ (ks_carried k)) (ks_shaped _ hl) (ks_shaped _ hk) hu (SeqAt.noMix_of_shape (.list .str) rfl _ _ (list_map_has fun _ => rfl) (list_map_has fun _ => rfl)) (by rw [ks_same]; exact h)
end
theorem ok_sign {zs : List (List Nat)} {l : List (Str × Tok)} (e : l.map (·.1) = zs.map txt) (h : ∀ z ∈ zs, ∀ c ∈ z, Sign c) : ∀ x ∈ l.map (·.1), PyData.strOk x = true := by
  intro x hx
  rw [e] at hx
  obtain ⟨z, hz, rfl⟩ := List.mem_map.mp hx
  unfold PyData.strOk txt
  rw [← Array.all_toList, List.all_eq_true]
  intro c hc
  rcases h z hz c hc with q | rfl | rfl
  · exact decide_eq_true (by omega)
  · decide
  · decide
end
section
theorem fresh_Lm2 : True := by w_top off; trivial
structure MarkTxt (y : List Nat) : Prop where
  sign : ∀ c ∈ y, Sign c
  len : y.length ≤ 4
noncomputable def MarksV (sv : Array Value) : Prop := sv.size = 8 ∧ ∀ j : Nat, j < 8 → ∃ y t, sv[j]? = some (.str (txt y) t) ∧ MarkTxt y
theorem marks_ok (t0 t1 t2 t3 t4 t5 t6 t7 : Tok) : MarksV #[.str (Str.ofString "\n") t0, .str (Str.ofString "\x0d\n") t1, .str (Str.ofString "\n ") t2, .str (Str.ofString "\x0d\n\t") t3, .str (Str.ofString "\x0d") t4, .str (Str.ofString " ") t5, .str (Str.ofString "\n\x0d\n ") t6, .str (Str.ofString "\n\n") t7] := by
  refine ⟨rfl, fun j hj => ?_⟩
  have mk : ∀ (y : List Nat), (y.all (fun c => decide (c < 128)) && decide (y.length ≤ 4)) = true → MarkTxt y := by
    intro y h
    simp only [Bool.and_eq_true, List.all_eq_true, decide_eq_true_eq] at h
    exact ⟨fun c hc => .inl (h.1 c hc), h.2⟩
  match j, hj with
  | 0, _ => exact ⟨[10], t0, by rw [show txt [10] = Str.ofString "\n" from by decide +kernel]; rfl, mk _ (by decide)⟩
  | 1, _ => exact ⟨[13, 10], t1, by rw [show txt [13, 10] = Str.ofString "\x0d\n" from by decide +kernel]; rfl, mk _ (by decide)⟩
  | 2, _ => exact ⟨[10, 32], t2, by rw [show txt [10, 32] = Str.ofString "\n " from by decide +kernel]; rfl, mk _ (by decide)⟩
  | 3, _ => exact ⟨[13, 10, 9], t3, by rw [show txt [13, 10, 9] = Str.ofString "\x0d\n\t" from by decide +kernel]; rfl, mk _ (by decide)⟩
  | 4, _ => exact ⟨[13], t4, by rw [show txt [13] = Str.ofString "\x0d" from by decide +kernel]; rfl, mk _ (by decide)⟩
  | 5, _ => exact ⟨[32], t5, by rw [show txt [32] = Str.ofString " " from by decide +kernel]; rfl, mk _ (by decide)⟩
  | 6, _ => exact ⟨[10, 13, 10, 32], t6, by rw [show txt [10, 13, 10, 32] = Str.ofString "\n\x0d\n " from by decide +kernel]; rfl, mk _ (by decide)⟩
  | 7, _ => exact ⟨[10, 10], t7, by rw [show txt [10, 10] = Str.ofString "\n\n" from by decide +kernel]; rfl, mk _ (by decide)⟩
/-- a text with a mark put in -/
noncomputable def putIn (x y : List Nat) (p : Nat) : List Nat := x.take p ++ y ++ x.drop p
theorem put_sign {x y : List Nat} {p : Nat} (hx : ∀ c ∈ x, Sign c) (hy : ∀ c ∈ y, Sign c) : ∀ c ∈ putIn x y p, Sign c := by
  intro c hc
  rcases List.mem_append.mp hc with hc | hc
  · rcases List.mem_append.mp hc with hc | hc
    · exact hx c (List.mem_of_mem_take hc)
    · exact hy c hc
  · exact hx c (List.mem_of_mem_drop hc)
theorem put_len {x y : List Nat} {p : Nat} (hp : p ≤ x.length) : (putIn x y p).length = x.length + y.length := by
  unfold putIn
  simp only [List.length_append, List.length_take, List.length_drop]
  omega
section
variable {g h h' : Heap} {L b LB : Addr} {n : Int} {t : Tok} {e : Nat} {oC : Obj} {ps qs ps' : Array Value} {v : Option Value}
theorem led4_463 (hcd : oC.data = .cell v) (N : News g L h [(b, bagO n t e), (LB + 1, oC), (463, tabObj ps), (456, tabObj qs)]) (G : Grew [463] h h') (B : h'.get? 463 = some (tabObj ps')) : News g L h' [(b, bagO n t e), (LB + 1, oC), (463, tabObj ps'), (456, tabObj qs)] :=
  news_upd [(b, bagO n t e), (LB + 1, oC)] [(456, tabObj qs)] N (fun p hp => by
    rcases List.mem_cons.mp hp with rfl | hp
    · exact ne_of_obj N (.head _) (.tail _ (.tail _ (.head _))) tab_ne_list
    rcases List.mem_cons.mp hp with rfl | hp
    · exact ne_of_obj N (.tail _ (.head _)) (.tail _ (.tail _ (.head _))) (cell_ne_tab hcd)
    rw [List.mem_singleton.mp hp]
    exact (by decide : (456 : Nat) ≠ 463)) G B
theorem led4_456 (hcd : oC.data = .cell v) (N : News g L h [(b, bagO n t e), (LB + 1, oC), (463, tabObj ps), (456, tabObj qs)]) (G : Grew [456] h h') (B : h'.get? 456 = some (tabObj ps')) : News g L h' [(b, bagO n t e), (LB + 1, oC), (463, tabObj ps), (456, tabObj ps')] :=
  news_upd [(b, bagO n t e), (LB + 1, oC), (463, tabObj ps)] [] N (fun p hp => by
    rcases List.mem_cons.mp hp with rfl | hp
    · exact ne_of_obj N (.head _) (.tail _ (.tail _ (.tail _ (.head _)))) tab_ne_list
    rcases List.mem_cons.mp hp with rfl | hp
    · exact ne_of_obj N (.tail _ (.head _)) (.tail _ (.tail _ (.tail _ (.head _)))) (cell_ne_tab hcd)
    rw [List.mem_singleton.mp hp]
    exact (by decide : (463 : Nat) ≠ 456)) G B
end
/-- the texts that a near text holds -/
structure Held (zs : List (List Nat)) (B : Nat) : Prop where
  sign : ∀ z ∈ zs, ∀ c ∈ z, Sign c
  nl : ∀ z ∈ zs, 10 ∉ z
  len : ∀ z ∈ zs, z.length ≤ B
  count : zs.length ≤ B + 2
theorem held_of {x : List Nat} {B : Nat} (hs : ∀ c ∈ x, Sign c) (hl : x.length ≤ B) : Held (full (unf x) ++ [[]]) B := by
  have h0 := unf_le x
  refine ⟨fun z hz c hc => ?_, fun z hz q => ?_, fun z hz => ?_, ?_⟩
  · rcases List.mem_append.mp hz with hz | hz
    · exact hs c (unf_mem x c (full_mem hz c hc).1)
    · rw [List.mem_singleton.mp hz] at hc; cases hc
  · rcases List.mem_append.mp hz with hz | hz
    · exact (full_mem hz 10 q).2 rfl
    · rw [List.mem_singleton.mp hz] at q; cases q
  · rcases List.mem_append.mp hz with hz | hz
    · have := full_le hz; omega
    · rw [List.mem_singleton.mp hz]; simp
  · have := full_count (unf x)
    rw [List.length_append]
    simp only [List.length_cons, List.length_nil]
    omega
theorem lsGo_sum : ∀ (x line : List Nat), (lsGo x line).flatten.length ≤ line.length + x.length
  | [], line => by simp [lsGo]
  | c :: r, line => by
    rw [lsGo]
    split
    · have h1 := lsGo_sum r []
      have h2 : (chop line).length ≤ line.length := by
        unfold chop
        split
        · rw [List.length_dropLast]; omega
        · exact Nat.le_refl _
      simp only [List.flatten_cons, List.length_append, List.length_nil, List.length_cons] at h1 ⊢
      omega
    · have h1 := lsGo_sum r (line ++ [c])
      simp only [List.length_append, List.length_cons, List.length_nil] at h1 ⊢
      omega
theorem filter_sum : ∀ l : List (List Nat), (l.filter fun z => z != []).flatten.length ≤ l.flatten.length
  | [] => by simp
  | a :: r => by
    have := filter_sum r
    rw [List.filter_cons]
    split
    · simp only [List.flatten_cons, List.length_append]; omega
    · simp only [List.flatten_cons, List.length_append]; omega
theorem full_sum (x : List Nat) : (full x).flatten.length ≤ x.length := by
  have h1 := filter_sum (lsGo x [])
  have h2 := lsGo_sum x []
  simp only [List.length_nil, Nat.zero_add] at h2
  exact Nat.le_trans h1 h2
theorem body_sum : ∀ ts : List (List Nat), (body ts).length ≤ 4 * ts.flatten.length + 5 * ts.length
  | [] => by simp [body]
  | t :: r => by
    have h1 := body_sum r
    have h2 := fold_len t
    rw [body_cons]
    simp only [List.length_append, List.length_cons, List.flatten_cons]
    omega
theorem outT_len {x : List Nat} {B : Nat} (hl : x.length ≤ B) : (outT (full (unf x))).length ≤ 9 * B + 20 := by
  have h0 := unf_le x
  have h1 := full_sum (unf x)
  have h2 := full_count (unf x)
  have h3 := body_sum (full (unf x))
  unfold outT
  split
  · simp
  · omega
theorem again_out {x : List Nat} (h : ∀ t ∈ full x, ∀ c ∈ t.head?, c ≠ 32 ∧ c ≠ 9) : full (unf (outT (full x))) ++ [[]] = full x ++ [[]] := pw_again h
theorem filter_full (x : List Nat) : (full x ++ [[]]).filter (fun l => l != []) = full x := by
  rw [List.filter_append, List.filter_eq_self.mpr fun t h => by simpa using full_ne h]
  simp
end
section
theorem fresh_Lh : True := by w_top off; trivial
noncomputable abbrev oneScope : Scope := { kind := ScopeKind.function, names := [(Str.ofString ".0", NameKind.local), (Str.ofString "one", NameKind.local)], isGenerator := false, isCoroutine := false }
noncomputable abbrev headIf (p1 p2 p3 p4 p5 p6 p7 p8 : Pos) : Expr :=
  Expr.Compare (.Subscript (.Name (Str.ofString "one") p1) (.Slice none (some (.Constant (.int 1) 0 p2)) none p3) p4) [.In]
    [.List [.Constant (.str (Str.ofString " ")) 0 p5, .Constant (.str (Str.ofString "\t")) 0 p6] p7] p8
noncomputable def headWs (z : List Nat) : Bool := z.head? == some 32 || z.head? == some 9
section
variable {w : World} {A : Around} {env : Env}
theorem slice_keep {prog : Program} {E : Value → Shared → Prop} {s : Shared} {P : Heap → Prop} {value slice : Expr} {x : Str} {t : Tok} {j : Int} {uj : Tok} {Q : Value → Shared → Prop} (hk : KeptH P) (hI : P s.heap)
    (h : ∀ h' t' k, P h' → Q (.str (Txt.slice x none (some j)) t') { s with heap := h', toks := k }) (hsz : x.length ≤ sizeLine)
    (hs : subscripted slice false (.str x t) (.ref s.heap.objs.size) = operate [.ref s.heap.objs.size, .str x t] (getItem (.str x t) (.ref s.heap.objs.size)) := by with_unfolding_all rfl)
    (ht : ∀ r, letTemporaryGo value (.str x t) r = pure () := by intro _; with_unfolding_all rfl) :
    wpAny (model prog w) A (subscriptTail value slice (.str x t) (.ref s.heap.objs.size)) Q E { s with heap := s.heap.push { cls := .type "slice", data := .fields #[.none, .int j uj, .none] } } :=
  tail_of_ItemOn (SBH.sliceItem_ns hk hI h hsz) hs ht
theorem head_any (z : List Nat) : ([Str.ofString " ", Str.ofString "\t"].any fun x => x == Txt.slice (txt z) none (some 1)) = headWs z := by
  rw [show Txt.slice (txt z) none (some 1) = txt (z.take 1) from slice_to_nat (txt z) 1, ofs_sp, ofs_tab]
  have key : ∀ a b : List Nat, (txt a == txt b) = (a == b) := fun a b => by
    by_cases h : a = b
    · subst h; simp
    · rw [beq_eq_false_iff_ne.mpr h, beq_eq_false_iff_ne.mpr fun q => h (txt_inj q)]
  simp only [List.any_cons, List.any_nil, Bool.or_false, key]
  unfold headWs
  cases z with
  | nil => rfl
  | cons c r =>
    have h32 : ([32] == List.take 1 (c :: r)) = (some c == some 32) := by
      show ([32] == [c]) = _
      by_cases h : c = 32
      · subst h; rfl
      · rw [beq_eq_false_iff_ne.mpr (fun q => h (List.cons.inj q).1.symm), beq_eq_false_iff_ne.mpr (fun q => h (Option.some.inj q))]
    have h9 : ([9] == List.take 1 (c :: r)) = (some c == some 9) := by
      show ([9] == [c]) = _
      by_cases h : c = 9
      · subst h; rfl
      · rw [beq_eq_false_iff_ne.mpr (fun q => h (List.cons.inj q).1.symm), beq_eq_false_iff_ne.mpr (fun q => h (Option.some.inj q))]
    rw [h32, h9]
    rfl
set_option maxHeartbeats 400000 in
theorem head_test {p1 p2 p3 p4 p5 p6 p7 p8 : Pos} {s₃ : Shared} {m₃ : Str → Option Value} {E' : Value → Shared → Prop} {C : Addr} {z : List Nat} {t : Tok}
    (hz : (txt z).length ≤ 100000)
    (hk2 : (compEnvC oneScope [] C env).kindOf (Str.ofString "one") = some .local) (hn : s₃.heap.Ns C m₃) (hm : m₃ (Str.ofString "one") = some (.str (txt z) t)) :
    wpAny (model PySem.Challenge.pw_be0022_01 w) A (forIn [headIf p1 p2 p3 p4 p5 p6 p7 p8] true fun c r => if r = true then do let ok ← isTrue c (compEnvC oneScope [] C env) (eval c (compEnvC oneScope [] C env)); pure (ForInStep.yield ok) else pure (ForInStep.yield r))
      (fun ok s₄ => ok = headWs z ∧ Keeps s₃ s₄) E' s₃ := by
  refine wpAny_tests_one ?_
  unfold headIf
  (repeat' (first | (k_unfold; (try dsimp only)) | ((fail_if_success with_reducible (first | refine st0 ?_ | refine st1 ?_ | refine st2 ?_ | refine st3 ?_ | refine st4 ?_ | refine st5 ?_ | refine st6 ?_ | refine st7 ?_ | refine st8 ?_)); walk1) | (dsimp only; (fail_if_success with_reducible (first | refine st0 ?_ | refine st1 ?_ | refine st2 ?_ | refine st3 ?_ | refine st4 ?_ | refine st5 ?_ | refine st6 ?_ | refine st7 ?_ | refine st8 ?_)); walk1) | (leave1; (try dsimp only)) | dsimp only | fail "no step"))
  refine slice_keep (hsz := ?hsz) (hs := ?hs) (ht := ?ht) (P := fun h => ∀ b o, s₃.heap.get? b = some o → h.get? b = some o) (s := ⟨s₃.heap, s₃.gens, s₃.drawn, s₃.toks + 1, s₃.os⟩) ?hk ?hI ?_
  case hs => with_unfolding_all rfl
  case ht => intro _; with_unfolding_all rfl
  case hsz => rw [sizeLine_eq]; omega
  case hk => exact fun h ob k b o e => Heap.get?_push_of_some _ (k b o e)
  case hI => exact fun _ _ e => e
  intro h' t' k hk
  refine PyProof.Rows.List_ ?_
  refine spliced_more (wpAny_Constant_str ?_)
  refine spliced_more (wpAny_Constant_str ?_)
  refine spliced_none ?_
  refine wpAny_newList ?_
  refine in_list_strs (vs := [_, _]) ⟨_, Heap.get?_push_size _ rfl, rfl, _, rfl⟩ (.cons _ _ (.cons _ _ .nil)) ?_
  refine wpAny_pure ⟨head_any z, _, _, rfl, fun b o e => Heap.get?_push_of_some _ (hk b o e)⟩
theorem head_block {p1 p2 p3 p4 p5 p6 p7 p8 p9 : Pos} {h₁ : Heap} {vs : List Value} {xs : List (List Nat)} {N : Nat}
    (hk2 : ∀ C, (compEnvC oneScope [] C env).kindOf (Str.ofString "one") = some .local)
    (hv : ∀ (i : Nat) (v : Value), vs[i]? = some v → ∃ t, v = .str (txt (xs[i]?.getD [])) t) (hz : ∀ z ∈ xs, z.length ≤ 100000) :
    SeqBlock PySem.Challenge.pw_be0022_01 w A env oneScope [] (Str.ofString "one") [headIf p1 p2 p3 p4 p5 p6 p7 p8] (.Name (Str.ofString "one") p9) (fun i => headWs (xs[i]?.getD [])) (StrG fun i => xs[i]?.getD []) vs h₁ N where
  tests := by
    intro C s₃ m₃ E' i v hvi G hN _ hn hm
    obtain ⟨t, rfl⟩ := hv i v hvi
    refine head_test ?_ (hk2 _) hn hm
    rw [str_len_txt]
    cases q : xs[i]? with
    | none => simp
    | some z => exact hz z (List.mem_of_getElem? q)
  elt := by
    intro C s₃ m₃ E' i v hvi _ G hN _ hn hm
    obtain ⟨t, rfl⟩ := hv i v hvi
    refine wpAny_Name (wpAny_loadName_local rfl (hk2 _) hn hm ?_) (by decide)
    exact ⟨⟨_, rfl⟩, _, _, rfl, fun b o e => e⟩
  stay := fun i y h h' z _ => z
end
end
section
theorem fresh_Lz : True := by w_top off; trivial
/-- after the line end of an empty text is laid -/
noncomputable def AfterDue (gB : Heap) (LB : Addr) (s : Shared) (z : List Nat) (c D1 : Addr) (news : List (Addr × Obj)) (f : Flow) (s' : Shared) : Prop :=
  f = .next ∧ ∃ h' tk t M, s' = ⟨h', s.gens, s.drawn, tk, s.os⟩ ∧ Fr gB LB h' M ∧ M (Str.ofString "due") = some (.str (txt z) t) ∧ M (Str.ofString "lines") = some (.ref c) ∧ M (Str.ofString "rows") = some (.ref D1) ∧ News gB LB h' news
theorem AfterDue.mk {gB h' : Heap} {LB c D1 : Addr} {s : Shared} {z : List Nat} {news : List (Addr × Obj)} {tk : Nat} {M : Str → Option Value} {y : Str} {t : Tok} (F : Fr gB LB h' M) (e1 : M (Str.ofString "due") = some (.str y t)) (hy : y = txt z) (e2 : M (Str.ofString "lines") = some (.ref c)) (e3 : M (Str.ofString "rows") = some (.ref D1)) (N : News gB LB h' news) :
    AfterDue gB LB s z c D1 news .next ⟨h', s.gens, s.drawn, tk, s.os⟩ := ⟨rfl, h', tk, t, M, rfl, F, by rw [e1, hy], e2, e3, N⟩
theorem body_empty {fs : List (List Nat)} : body fs = [] ↔ fs = [] := by
  cases fs with
  | nil => simp [body]
  | cons t r => rw [body_cons]; simp
local macro_rules | `(tactic| walk_at "getMethod str") => `(tactic| (with_reducible refine enc_method ?_))
set_option maxHeartbeats 8000000 in
theorem law_spec {w : World} {mean : ExcName → Option Value} {mg mb : Str → Option Value} {h₀ : Heap} {s : Shared} {A : Around} {Q E : Value → Shared → Prop}
  {a : Addr} {vs : List Value} {ns : List Int} {ps qs : Array Value}
  (S : Sits w mean mg mb h₀ s.heap) (hb : ∀ p ∈ [((463 : Addr), tabObj ps), (456, tabObj qs)], s.heap.get? p.1 = some p.2 ∧ h₀.get? p.1 = none) (hps : TriplesOk ps.toList) (hqs : TriplesOk qs.toList)
  (hl : s.heap.IsList a vs.toArray) (hi : IntsAre vs ns) (hn : ns.length ≤ 63) (hd : A.depth + 20 < recursionLimit) (hu : A.units + 80 < cLine) (hA : A.handled = none)
  (hret : ∀ h' tk' gs', Grew [463, 456] s.heap h' → (∃ ps', h'.get? 463 = some (tabObj ps')) → (∃ qs', h'.get? 456 = some (tabObj qs')) → (∃ gl : List GenState, (∀ y ∈ gl, y.bare = true) ∧ gs' = s.gens ++ gl.toArray) → Q (.bool true) { s with heap := h', toks := tk', gens := gs' }) :
  wpAny (model PySem.Challenge.pw_be0022_01 w) A (call (.ref 516) [.ref a]) Q E s := by
  (have Dz := dum; revert Dz; k_fill; intro Dz; clear Dz)
  refine wpAny_call ?_
  (k_dflt (refine' enterC _ ?k1 ?kb ?k6 ?k7 ?k8 ?k9 ?kl ?kd ?_ ?c3 ?c4 ?c5; (case k1 => k_asm); (case kb => first | assumption | exact List.forall_mem_nil _); (case k6 => k_is); (case k7 => k_is); (case k8 => omega); (case k9 => exact BindsTo.of_eq rfl); (case kl => rfl); (case kd => decide); (case c3 => exact rfl); (case c4 => exact rfl); (case c5 => exact rfl); k_whole))
  intro gB LB hB tkB cells F1 N1 Y1 X1 T1 U1 l1
  k_cells Y1
  (try dsimp only); (try k_fold)
  (repeat' (first | (k_unfold; (try dsimp only)) | ((fail_if_success with_reducible (first | refine st0 ?_ | refine st1 ?_ | refine st2 ?_ | refine st3 ?_ | refine st4 ?_ | refine st5 ?_ | refine st6 ?_ | refine st7 ?_ | refine st8 ?_ | refine st9 ?_ | refine st10 ?_ | refine st11 ?_ | refine st12 ?_)); walk1) | (dsimp only; (fail_if_success with_reducible (first | refine st0 ?_ | refine st1 ?_ | refine st2 ?_ | refine st3 ?_ | refine st4 ?_ | refine st5 ?_ | refine st6 ?_ | refine st7 ?_ | refine st8 ?_ | refine st9 ?_ | refine st10 ?_ | refine st11 ?_ | refine st12 ?_)); walk1) | (leave1; (try dsimp only)) | dsimp only | fail "no step"))
  have hl1 : hB.IsList a vs.toArray := by
    obtain ⟨o, e, hc, r⟩ := hl
    refine ⟨o, F1.keep _ _ (U1.up _ _ (fun q => ?_) e), hc, r⟩
    obtain ⟨p, hp, rfl⟩ := List.mem_map.mp q
    rw [(hb p hp).1] at e
    have e2 := Option.some.inj e
    rcases List.mem_cons.mp hp with rfl | hp
    · rw [← e2] at hc; cases hc
    · rw [List.mem_singleton.mp hp] at e2; rw [← e2] at hc; cases hc
  refine bag_spec (sits_of F1 X1 T1) hl1 hi hn (show A.depth + 1 + 1 < _ by omega) (show A.units + 3 + 8 < _ by omega) hA ?_
  rintro b h2 tk2 n ⟨t0, e0, hb0⟩ hn0 hbn G2
  have F2 := fr_nil F1 G2
  have N2 := news_new F1 hbn hb0 (news_nil N1 G2)
  clear G2 F1 N1 hl1
  (repeat' (first | (k_unfold; (try dsimp only)) | ((fail_if_success with_reducible (first | refine st0 ?_ | refine st1 ?_ | refine st2 ?_ | refine st3 ?_ | refine st4 ?_ | refine st5 ?_ | refine st6 ?_ | refine st7 ?_ | refine st8 ?_ | refine st9 ?_ | refine st10 ?_ | refine st11 ?_ | refine st12 ?_)); walk1) | (dsimp only; (fail_if_success with_reducible (first | refine st0 ?_ | refine st1 ?_ | refine st2 ?_ | refine st3 ?_ | refine st4 ?_ | refine st5 ?_ | refine st6 ?_ | refine st7 ?_ | refine st8 ?_ | refine st9 ?_ | refine st10 ?_ | refine st11 ?_ | refine st12 ?_)); walk1) | (leave1; (try dsimp only)) | dsimp only | fail "no step"))
  rename Fr _ _ _ _ => F2
  rename News _ _ _ _ => N2
  rename (Obj.data _ = Data.cell _) => hcd
  rename Obj => oC
  simp only [List.cons_append, List.nil_append] at N2
  have bne : ∀ p ∈ [(LB + 1, oC), ((463 : Addr), tabObj ps), (456, tabObj qs)], p.1 ≠ b := by
    intro p hp q
    have h1 := (N2 p (.tail _ hp)).1
    have h2 := (N2 _ (.head _)).1
    rw [q] at h1
    have h3 := Option.some.inj (h1.symm.trans h2)
    rcases List.mem_cons.mp hp with rfl | hp
    · replace h3 : oC = _ := h3
      rw [h3] at hcd; cases hcd
    · rcases List.mem_cons.mp hp with rfl | hp
      · cases h3
      · rw [List.mem_singleton.mp hp] at h3; cases h3
  refine comp_rows (b := b) (cellA := LB + 1) (gB := gB) hA rfl rfl (by decide) rfl (by decide) rfl rfl rfl X1 T1 (N2 _ (.head _)).2.2 ?hcb (fun q => (N2 _ (.head _)).2.1 q.symm) rfl (fun _ => rfl) (fun _ => rfl) rfl (show A.depth + 1 + 4 < _ by omega) (show A.units + 3 + 30 < _ by omega) ?_
  case hcb => exact bne _ (.head _)
  (repeat' (first | (k_unfold; (try dsimp only)) | ((fail_if_success with_reducible (first | refine st0 ?_ | refine st1 ?_ | refine st2 ?_ | refine st3 ?_ | refine st4 ?_ | refine st5 ?_ | refine st6 ?_ | refine st7 ?_ | refine st8 ?_ | refine st9 ?_ | refine st10 ?_ | refine st11 ?_ | refine st12 ?_)); walk1) | (dsimp only; (fail_if_success with_reducible (first | refine st0 ?_ | refine st1 ?_ | refine st2 ?_ | refine st3 ?_ | refine st4 ?_ | refine st5 ?_ | refine st6 ?_ | refine st7 ?_ | refine st8 ?_ | refine st9 ?_ | refine st10 ?_ | refine st11 ?_ | refine st12 ?_)); walk1) | (leave1; (try dsimp only)) | dsimp only | fail "no step"))
  rename Fr _ _ _ _ => F2
  rename News _ _ _ _ => N2
  refine draw_spec (sits_of F2 X1 T1) (bag_row N2 (.head _)) hn0 (by decide) (by decide) (show A.depth + 1 + 1 < _ by omega) (show A.units + 3 + 8 < _ by omega) ?_
  rintro v3 h3 tk3 ⟨u3, rfl⟩ ⟨t3, e3, B3⟩ G3
  replace F2 := bag_fr F2 N2 (.head _) G3
  replace N2 := news_upd [] _ N2 bne G3 B3
  clear G3 B3
  simp only [List.nil_append] at N2
  (repeat' (first | (k_unfold; (try dsimp only)) | ((fail_if_success with_reducible (first | refine st0 ?_ | refine st1 ?_ | refine st2 ?_ | refine st3 ?_ | refine st4 ?_ | refine st5 ?_ | refine st6 ?_ | refine st7 ?_ | refine st8 ?_ | refine st9 ?_ | refine st10 ?_ | refine st11 ?_ | refine st12 ?_)); walk1) | (dsimp only; (fail_if_success with_reducible (first | refine st0 ?_ | refine st1 ?_ | refine st2 ?_ | refine st3 ?_ | refine st4 ?_ | refine st5 ?_ | refine st6 ?_ | refine st7 ?_ | refine st8 ?_ | refine st9 ?_ | refine st10 ?_ | refine st11 ?_ | refine st12 ?_)); walk1) | (leave1; (try dsimp only)) | dsimp only | fail "no step"))
  rename Fr _ _ _ _ => F3
  rename News _ _ _ _ => N3
  rename (IsRange _ _ _ _ _ _ _ _) => R3
  have hk3 : 1 + n % 3 = ((1 + n % 3).toNat : Int) := by have := Int.emod_nonneg n (show (3 : Int) ≠ 0 by decide); omega
  have hk3b : (1 + n % 3).toNat ≤ 3 := by have := Int.emod_lt_of_pos n (show (0 : Int) < 3 by decide); omega
  rw [hk3] at R3
  refine RowsAsk.intro R3 (by omega) F3.keep (Nat.le_trans F3.above (Nat.le_of_lt F3.ns.lt)) ((N3 _ (.head _)).1) (Int.ediv_nonneg hn0 (by decide)) (⟨oC, (N3 _ (.tail _ (.head _))).1, hcd⟩) F3.ns ?_
  intro D1 h4 tk4 n4 t4 e4 l xs ns4 hD4 hD40 k4 z4 hb4 hn4 hlx hxs hxl
  have F4 : Fr gB LB h4 _ := ⟨ns4, fun b' o e => k4 b' o (fun q => by rw [q, (N3 _ (.head _)).2.2] at e; cases e) (Nat.ne_of_lt (Nat.lt_of_lt_of_le (Heap.lt_size e) F3.above)) (F3.keep b' o e), F3.above⟩
  have N4 : News gB LB h4 [(D1, txts l l.length), (b, bagO n4 t4 e4), (LB + 1, oC), (463, tabObj ps), (456, tabObj qs)] := by
    refine news_new F3 hD40 hD4 ?_
    intro p hp
    rcases List.mem_cons.mp hp with rfl | hp
    · exact ⟨hb4, (N3 _ (.head _)).2⟩
    · have h1 := N3 p (.tail _ hp)
      exact ⟨k4 _ _ (bne p hp) h1.2.1 h1.1, h1.2⟩
  clear F3 N3 R3 k4 ns4
  (try dsimp only)
  (repeat' (first | (k_unfold; (try dsimp only)) | ((fail_if_success with_reducible (first | refine st0 ?_ | refine st1 ?_ | refine st2 ?_ | refine st3 ?_ | refine st4 ?_ | refine st5 ?_ | refine st6 ?_ | refine st7 ?_ | refine st8 ?_ | refine st9 ?_ | refine st10 ?_ | refine st11 ?_ | refine st12 ?_)); walk1) | (dsimp only; (fail_if_success with_reducible (first | refine st0 ?_ | refine st1 ?_ | refine st2 ?_ | refine st3 ?_ | refine st4 ?_ | refine st5 ?_ | refine st6 ?_ | refine st7 ?_ | refine st8 ?_ | refine st9 ?_ | refine st10 ?_ | refine st11 ?_ | refine st12 ?_)); walk1) | (leave1; (try dsimp only)) | dsimp only | fail "no step"))
  refine comp_seq (cl := []) (fun _ => true) (fun s₁ => ElV (s₁.heap.objs.size + 3) xs) hA rfl (by decide) rfl (by decide) rfl ?_
  (repeat' (first | (k_unfold; (try dsimp only)) | ((fail_if_success with_reducible (first | refine st0 ?_ | refine st1 ?_ | refine st2 ?_ | refine st3 ?_ | refine st4 ?_ | refine st5 ?_ | refine st6 ?_ | refine st7 ?_ | refine st8 ?_ | refine st9 ?_ | refine st10 ?_ | refine st11 ?_ | refine st12 ?_)); walk1) | (dsimp only; (fail_if_success with_reducible (first | refine st0 ?_ | refine st1 ?_ | refine st2 ?_ | refine st3 ?_ | refine st4 ?_ | refine st5 ?_ | refine st6 ?_ | refine st7 ?_ | refine st8 ?_ | refine st9 ?_ | refine st10 ?_ | refine st11 ?_ | refine st12 ?_)); walk1) | (leave1; (try dsimp only)) | dsimp only | fail "no step"))
  have hll : l.length ≤ 3 := by have := congrArg List.length hlx; simp only [List.length_map] at this; omega
  have hxlen : xs.length = l.length := by have := congrArg List.length hlx; simpa using this.symm
  have hD4' : h4.get? D1 = some (listOf (strValues l).toArray l.length) := hD4
  refine SeqAsk.intro D1 (strValues l) (⟨_, _, hD4', rfl⟩) (walked_list ⟨_, hD4', rfl, _, rfl⟩) (by simp [strValues]; omega) (cls_block hA X1 T1 F4.keep (Nat.le_trans F4.above (Nat.le_of_lt F4.ns.lt)) rfl rfl (fun _ => rfl) (fun _ => rfl) (by decide) (texts_hv hlx) (fun x hx => ⟨(hxs x hx).plain.1, Nat.le_trans (hxs x hx).len (by decide)⟩) (show A.depth + 1 + 3 < _ by omega) (show A.units + 3 + 20 < _ by omega)) ?_
  intro D5 h5 tk5 ys hD5 hD50 hM G5
  have V5 : TxtsV h5 ys xs := by
    have := matches_els hM
    rw [show (strValues l).length = xs.length by simp [strValues, hxlen], all_map] at this
    exact this
  have F5 := fr_nil F4 G5
  have N5 := news_new F4 hD50 hD5 (news_nil N4 G5)
  clear F4 N4 hM G5
  (repeat' (first | (k_unfold; (try dsimp only)) | ((fail_if_success with_reducible (first | refine st0 ?_ | refine st1 ?_ | refine st2 ?_ | refine st3 ?_ | refine st4 ?_ | refine st5 ?_ | refine st6 ?_ | refine st7 ?_ | refine st8 ?_ | refine st9 ?_ | refine st10 ?_ | refine st11 ?_ | refine st12 ?_)); walk1) | (dsimp only; (fail_if_success with_reducible (first | refine st0 ?_ | refine st1 ?_ | refine st2 ?_ | refine st3 ?_ | refine st4 ?_ | refine st5 ?_ | refine st6 ?_ | refine st7 ?_ | refine st8 ?_ | refine st9 ?_ | refine st10 ?_ | refine st11 ?_ | refine st12 ?_)); walk1) | (leave1; (try dsimp only)) | dsimp only | fail "no step"))
  rename Fr _ _ _ _ => F5
  rename News _ _ _ _ => N5
  refine ls_of_list (X1.keeps F5.keep) (N5 _ (.head _)).1 (by have := V5.length; simp; omega) ?_
  intro c h6 tk6 k6 L6 hc6
  obtain ⟨d, nn, c6, d6⟩ := L6
  have F6 := fr_up F5 k6
  have V6 := V5.keeps k6
  obtain ⟨rw1, W1, _, W2⟩ := txts_rows F6 (x := Str.ofString "rows") rfl V6
  obtain ⟨rw2, Q1, _, Q2⟩ := rows_of F6 [(c, lsO d ys.toArray nn), (d, emptyDict)] (fun p hp => by
    rcases List.mem_cons.mp hp with rfl | hp
    · refine ⟨c6, fun (q : c = LB) => ?_⟩
      obtain ⟨o, _, _, e, _⟩ := F5.ns
      rw [← q, hc6] at e; cases e
    · rw [List.mem_singleton.mp hp]
      exact ⟨d6, fun (q : d = LB) => (ns_obj F6.ns (x := Str.ofString "rows") rfl _ (by rw [← q]; exact d6)).1 rfl⟩)
  have N6 : News gB LB h6 ((D1, txts l l.length) :: (b, bagO n4 t4 e4) :: (LB + 1, oC) :: (463, tabObj ps) :: (456, tabObj qs) :: (rw2 ++ rw1)) := by
    intro p hp
    rcases (List.mem_append (s := [(D1, txts l l.length), (b, bagO n4 t4 e4), (LB + 1, oC), (463, tabObj ps), (456, tabObj qs)]) (t := rw2 ++ rw1)).mp hp with hp | hp
    · exact news_up N5 k6 p (.tail _ hp)
    · exact news_app Q1 W1 p hp
  clear F5 N5 V5 V6 W1 Q1 k6 c6 d6 hc6 hD5 hD50
  (repeat' (first | (k_unfold; (try dsimp only)) | ((fail_if_success with_reducible (first | refine st0 ?_ | refine st1 ?_ | refine st2 ?_ | refine st3 ?_ | refine st4 ?_ | refine st5 ?_ | refine st6 ?_ | refine st7 ?_ | refine st8 ?_ | refine st9 ?_ | refine st10 ?_ | refine st11 ?_ | refine st12 ?_)); walk1) | (dsimp only; (fail_if_success with_reducible (first | refine st0 ?_ | refine st1 ?_ | refine st2 ?_ | refine st3 ?_ | refine st4 ?_ | refine st5 ?_ | refine st6 ?_ | refine st7 ?_ | refine st8 ?_ | refine st9 ?_ | refine st10 ?_ | refine st11 ?_ | refine st12 ?_)); walk1) | (leave1; (try dsimp only)) | dsimp only | fail "no step"))
  rename Fr _ _ _ _ => F7
  rename News _ _ _ _ => N7
  refine comp_seq (cl := []) (keepP xs) (fun _ => StrG fun i => fold (xs[i]?.getD []) ++ [13, 10]) hA rfl (by decide) rfl (by decide) rfl ?_
  (repeat' (first | (k_unfold; (try dsimp only)) | ((fail_if_success with_reducible (first | refine st0 ?_ | refine st1 ?_ | refine st2 ?_ | refine st3 ?_ | refine st4 ?_ | refine st5 ?_ | refine st6 ?_ | refine st7 ?_ | refine st8 ?_ | refine st9 ?_ | refine st10 ?_ | refine st11 ?_ | refine st12 ?_)); walk1) | (dsimp only; (fail_if_success with_reducible (first | refine st0 ?_ | refine st1 ?_ | refine st2 ?_ | refine st3 ?_ | refine st4 ?_ | refine st5 ?_ | refine st6 ?_ | refine st7 ?_ | refine st8 ?_ | refine st9 ?_ | refine st10 ?_ | refine st11 ?_ | refine st12 ?_)); walk1) | (leave1; (try dsimp only)) | dsimp only | fail "no step"))
  have hD7 := (N7 _ (.head _)).1
  refine SeqAsk.intro D1 (strValues l) (⟨_, _, hD7, rfl⟩) (walked_list ⟨_, hD7, rfl, _, rfl⟩) (by simp [strValues]; omega) (fold_block hA X1 T1 F7.keep (Nat.le_trans F7.above (Nat.le_of_lt F7.ns.lt)) rfl rfl (fun _ => rfl) (fun _ => rfl) (by decide) (texts_hv hlx) hxs (show A.depth + 1 + 3 < _ by omega) (show A.units + 3 + 20 < _ by omega)) ?_
  intro D8 h8 tk8 ys8 hD8 hD80 hM8 G8
  obtain ⟨l8, rfl, e8⟩ := matches_strs hM8
  rw [show (strValues l).length = xs.length by simp [strValues, hxlen], kept_map xs fun x => fold x ++ [13, 10]] at e8
  have F8 := fr_nil F7 G8
  have N8 := news_new F7 hD80 hD8 (news_nil N7 G8)
  clear F7 N7 hM8 G8 hD7
  (repeat' (first | (k_unfold; (try dsimp only)) | ((fail_if_success with_reducible (first | refine st0 ?_ | refine st1 ?_ | refine st2 ?_ | refine st3 ?_ | refine st4 ?_ | refine st5 ?_ | refine st6 ?_ | refine st7 ?_ | refine st8 ?_ | refine st9 ?_ | refine st10 ?_ | refine st11 ?_ | refine st12 ?_ | refine st13 ?_ | refine st14 ?_)); walk1) | (dsimp only; (fail_if_success with_reducible (first | refine st0 ?_ | refine st1 ?_ | refine st2 ?_ | refine st3 ?_ | refine st4 ?_ | refine st5 ?_ | refine st6 ?_ | refine st7 ?_ | refine st8 ?_ | refine st9 ?_ | refine st10 ?_ | refine st11 ?_ | refine st12 ?_ | refine st13 ?_ | refine st14 ?_)); walk1) | (leave1; (try dsimp only)) | dsimp only | fail "no step"))
  rename Fr _ _ _ _ => F8
  rename News _ _ _ _ => N8
  obtain ⟨fs, hfs⟩ : ∃ fs, fs = xs.filter fun l => l != [] := ⟨_, rfl⟩
  rw [← hfs] at e8
  have hfsl : fs.length ≤ 3 := by rw [hfs]; exact Nat.le_trans (List.length_filter_le _ _) (by omega)
  have hfr : ∀ z ∈ fs, RowOk z 400 ∧ z ≠ [] := fun z hz => by
    rw [hfs] at hz
    exact ⟨hxs z (List.mem_filter.mp hz).1, by simpa using (List.mem_filter.mp hz).2⟩
  have hbl := body_le (B := 400) (ts := fs) fun z hz => (hfr z hz).1.len
  have hbl2 : fs.length * (4 * 400 + 5) ≤ 3 * 1605 := Nat.mul_le_mul hfsl (by decide)
  have hflat : (fs.map fun x => fold x ++ [13, 10]).flatten = body fs := rfl
  refine join_empty _ (fs.map fun x => fold x ++ [13, 10]) l8 _ (N8 _ (.head _)).1 e8 (by rw [hflat, List.length_map]; omega) ?_
  intro t9 k9
  rw [hflat]
  (repeat' (first | (k_unfold; (try dsimp only)) | ((fail_if_success with_reducible (first | refine st0 ?_ | refine st1 ?_ | refine st2 ?_ | refine st3 ?_ | refine st4 ?_ | refine st5 ?_ | refine st6 ?_ | refine st7 ?_ | refine st8 ?_ | refine st9 ?_ | refine st10 ?_ | refine st11 ?_ | refine st12 ?_ | refine st13 ?_ | refine st14 ?_)); walk1) | (dsimp only; (fail_if_success with_reducible (first | refine st0 ?_ | refine st1 ?_ | refine st2 ?_ | refine st3 ?_ | refine st4 ?_ | refine st5 ?_ | refine st6 ?_ | refine st7 ?_ | refine st8 ?_ | refine st9 ?_ | refine st10 ?_ | refine st11 ?_ | refine st12 ?_ | refine st13 ?_ | refine st14 ?_)); walk1) | (leave1; (try dsimp only)) | dsimp only | fail "no step"))
  rename News _ _ _ _ => N9
  replace N9 : News gB LB _ ((D1, txts l l.length) :: (b, bagO n4 t4 e4) :: (LB + 1, oC) :: (463, tabObj ps) :: (456, tabObj qs) :: (rw2 ++ rw1)) := fun p hp => N9 p (.tail _ hp)
  refine wpAny_mono (Q := AfterDue gB LB s (outT fs) c D1 ((D1, txts l l.length) :: (b, bagO n4 t4 e4) :: (LB + 1, oC) :: (463, tabObj ps) :: (456, tabObj qs) :: (rw2 ++ rw1))) ?_ ?_ (fun _ _ e => e)
  · (repeat' (first | (k_unfold; (try dsimp only)) | ((fail_if_success with_reducible (first | refine st0 ?_ | refine st1 ?_ | refine st2 ?_ | refine st3 ?_ | refine st4 ?_ | refine st5 ?_ | refine st6 ?_ | refine st7 ?_ | refine st8 ?_ | refine st9 ?_ | refine st10 ?_ | refine st11 ?_ | refine st12 ?_)); walk1) | (dsimp only; (fail_if_success with_reducible (first | refine st0 ?_ | refine st1 ?_ | refine st2 ?_ | refine st3 ?_ | refine st4 ?_ | refine st5 ?_ | refine st6 ?_ | refine st7 ?_ | refine st8 ?_ | refine st9 ?_ | refine st10 ?_ | refine st11 ?_ | refine st12 ?_)); walk1) | (leave1; (try dsimp only)) | dsimp only | fail "no step"))
    · rename (_ == Str.ofString "") = true => f1
      rename Fr _ _ _ _ => F9
      rename News _ _ _ _ => N9
      have h1 : fs = [] := body_empty.mp (txt_inj ((beq_iff_eq.mp f1).trans ofs_empty))
      exact AfterDue.mk F9 rfl (by rw [h1, ofs_crnl]; rfl) rfl rfl N9
    · rename (_ == Str.ofString "") = false => f1
      rename Fr _ _ _ _ => F9
      rename News _ _ _ _ => N9
      have h1 : fs ≠ [] := fun q => by
        rw [beq_eq_false_iff_ne] at f1
        exact f1 (by rw [body_empty.mpr q, ofs_empty])
      exact AfterDue.mk F9 rfl (by unfold outT; rw [if_neg h1]) rfl rfl N9
  clear N9
  rintro f9 s9 ⟨rfl, h9, tk9, t10, M9, rfl, F9, m1, m2, m3, N9⟩
  dsimp only
  replace F9 := fr_at3 F9 m1 m2 m3
  (repeat' (first | (k_unfold; (try dsimp only)) | ((fail_if_success with_reducible (first | refine st0 ?_ | refine st1 ?_ | refine st2 ?_ | refine st3 ?_ | refine st4 ?_ | refine st5 ?_ | refine st6 ?_ | refine st7 ?_ | refine st8 ?_ | refine st9 ?_ | refine st10 ?_ | refine st11 ?_ | refine st12 ?_ | refine st13 ?_ | refine st14 ?_)); walk1) | (dsimp only; (fail_if_success with_reducible (first | refine st0 ?_ | refine st1 ?_ | refine st2 ?_ | refine st3 ?_ | refine st4 ?_ | refine st5 ?_ | refine st6 ?_ | refine st7 ?_ | refine st8 ?_ | refine st9 ?_ | refine st10 ?_ | refine st11 ?_ | refine st12 ?_ | refine st13 ?_ | refine st14 ?_)); walk1) | (leave1; (try dsimp only)) | dsimp only | fail "no step"))
  rename Fr _ _ _ _ => F9
  rename News _ _ _ _ => N9
  have V9 := W2 _ _ F9 (fun p hp => N9 p (.tail _ (.tail _ (.tail _ (.tail _ (.tail _ (List.mem_append.mpr (.inr hp))))))))
  have Q9 := Q2 _ _ F9 (fun p hp => N9 p (.tail _ (.tail _ (.tail _ (.tail _ (.tail _ (List.mem_append.mpr (.inl hp))))))))
  have H9 : LsAt h9 c ys.toArray := ⟨d, nn, Q9 _ (.head _), Q9 _ (.tail _ (.head _))⟩
  refine ls_method_toical (X1.keeps F9.keep) H9 ?_
  (repeat' (first | (k_unfold; (try dsimp only)) | ((fail_if_success with_reducible (first | refine st0 ?_ | refine st1 ?_ | refine st2 ?_ | refine st3 ?_ | refine st4 ?_ | refine st5 ?_ | refine st6 ?_ | refine st7 ?_ | refine st8 ?_ | refine st9 ?_ | refine st10 ?_ | refine st11 ?_ | refine st12 ?_ | refine st13 ?_ | refine st14 ?_)); walk1) | (dsimp only; (fail_if_success with_reducible (first | refine st0 ?_ | refine st1 ?_ | refine st2 ?_ | refine st3 ?_ | refine st4 ?_ | refine st5 ?_ | refine st6 ?_ | refine st7 ?_ | refine st8 ?_ | refine st9 ?_ | refine st10 ?_ | refine st11 ?_ | refine st12 ?_ | refine st13 ?_ | refine st14 ?_)); walk1) | (leave1; (try dsimp only)) | dsimp only | fail "no step"))
  rename Fr _ _ _ _ => F9
  rename News _ _ _ _ => N9
  refine to_spec (sits_of F9 X1 T1) (bag_row N9 (.tail _ (.tail _ (.tail _ (.tail _ (.head _)))))) hqs H9 V9 (fun t ht => ⟨Nat.le_trans (hxs t ht).len (by decide), (hxs t ht).plain.1, (hxs t ht).sign⟩) (by omega) (show A.depth + 1 + 10 < _ by omega) (show A.units + 3 + 60 < _ by omega) hA ?_
  intro h10 tk10 gs10 t11 qs10 G10 hq10 hqs10 hgl10
  rw [← hfs]
  obtain ⟨gl10, hgl10, rfl⟩ := hgl10
  have F10 := bag_fr F9 N9 (.tail _ (.tail _ (.tail _ (.tail _ (.head _))))) G10
  have N10 : News gB LB h10 [(D1, txts l l.length), (b, bagO n4 t4 e4), (LB + 1, oC), (463, tabObj ps), (456, tabObj qs10)] :=
    news_upd [(D1, txts l l.length), (b, bagO n4 t4 e4), (LB + 1, oC), (463, tabObj ps)] [] (fun p hp => N9 p (by
      rcases List.mem_cons.mp hp with rfl | hp
      · exact .head _
      rcases List.mem_cons.mp hp with rfl | hp
      · exact .tail _ (.head _)
      rcases List.mem_cons.mp hp with rfl | hp
      · exact .tail _ (.tail _ (.head _))
      rcases List.mem_cons.mp hp with rfl | hp
      · exact .tail _ (.tail _ (.tail _ (.head _)))
      rw [List.mem_singleton.mp hp]
      exact .tail _ (.tail _ (.tail _ (.tail _ (.head _)))))) (fun p hp => by
      rcases List.mem_cons.mp hp with rfl | hp
      · exact ne_of_obj N9 (.head _) (.tail _ (.tail _ (.tail _ (.tail _ (.head _))))) tab_ne_list
      rcases List.mem_cons.mp hp with rfl | hp
      · exact ne_of_obj N9 (.tail _ (.head _)) (.tail _ (.tail _ (.tail _ (.tail _ (.head _))))) tab_ne_list
      rcases List.mem_cons.mp hp with rfl | hp
      · exact ne_of_obj N9 (.tail _ (.tail _ (.head _))) (.tail _ (.tail _ (.tail _ (.tail _ (.head _))))) (cell_ne_tab hcd)
      rw [List.mem_singleton.mp hp]
      exact (by decide : (463 : Nat) ≠ 456)) G10 hq10
  clear F9 N9 V9 Q9 H9 W2 Q2
  (repeat' (first | (k_unfold; (try dsimp only)) | ((fail_if_success with_reducible (first | refine st0 ?_ | refine st1 ?_ | refine st2 ?_ | refine st3 ?_ | refine st4 ?_ | refine st5 ?_ | refine st6 ?_ | refine st7 ?_ | refine st8 ?_ | refine st9 ?_ | refine st10 ?_ | refine st11 ?_ | refine st12 ?_ | refine st13 ?_ | refine st14 ?_)); walk1) | (dsimp only; (fail_if_success with_reducible (first | refine st0 ?_ | refine st1 ?_ | refine st2 ?_ | refine st3 ?_ | refine st4 ?_ | refine st5 ?_ | refine st6 ?_ | refine st7 ?_ | refine st8 ?_ | refine st9 ?_ | refine st10 ?_ | refine st11 ?_ | refine st12 ?_ | refine st13 ?_ | refine st14 ?_)); walk1) | (leave1; (try dsimp only)) | dsimp only | fail "no step"))
  (repeat' (first | (k_unfold; (try dsimp only)) | ((fail_if_success with_reducible (first | refine st0 ?_ | refine st1 ?_ | refine st2 ?_ | refine st3 ?_ | refine st4 ?_ | refine st5 ?_ | refine st6 ?_ | refine st7 ?_ | refine st8 ?_ | refine st9 ?_ | refine st10 ?_ | refine st11 ?_ | refine st12 ?_)); walk1) | (dsimp only; (fail_if_success with_reducible (first | refine st0 ?_ | refine st1 ?_ | refine st2 ?_ | refine st3 ?_ | refine st4 ?_ | refine st5 ?_ | refine st6 ?_ | refine st7 ?_ | refine st8 ?_ | refine st9 ?_ | refine st10 ?_ | refine st11 ?_ | refine st12 ?_)); walk1) | (leave1; (try dsimp only)) | dsimp only | fail "no step"))
  have hsg : ∀ c ∈ outT fs, Sign c := outT_mem fun t ht => (hfr t ht).1.sign
  have hol : (outT fs).length ≤ 5000 := by
    unfold outT
    split
    · simp
    · omega
  refine encode2 (fun c hc => sign_plain (hsg c hc)) (by omega) fun t12 k12 => ?_
  (repeat' (first | (k_unfold; (try dsimp only)) | ((fail_if_success with_reducible (first | refine st0 ?_ | refine st1 ?_ | refine st2 ?_ | refine st3 ?_ | refine st4 ?_ | refine st5 ?_ | refine st6 ?_ | refine st7 ?_ | refine st8 ?_ | refine st9 ?_ | refine st10 ?_ | refine st11 ?_ | refine st12 ?_)); walk1) | (dsimp only; (fail_if_success with_reducible (first | refine st0 ?_ | refine st1 ?_ | refine st2 ?_ | refine st3 ?_ | refine st4 ?_ | refine st5 ?_ | refine st6 ?_ | refine st7 ?_ | refine st8 ?_ | refine st9 ?_ | refine st10 ?_ | refine st11 ?_ | refine st12 ?_)); walk1) | (leave1; (try dsimp only)) | dsimp only | fail "no step"))
  · rename (_ != _) = true => f1
    simp at f1
  rename Fr _ _ _ _ => F11
  rename News _ _ _ _ => N11
  refine comp_seq (cl := []) (keepP xs) (fun _ => StrG fun i => xs[i]?.getD []) hA rfl (by decide) rfl (by decide) rfl ?_
  (repeat' (first | (k_unfold; (try dsimp only)) | ((fail_if_success with_reducible (first | refine st0 ?_ | refine st1 ?_ | refine st2 ?_ | refine st3 ?_ | refine st4 ?_ | refine st5 ?_ | refine st6 ?_ | refine st7 ?_ | refine st8 ?_ | refine st9 ?_ | refine st10 ?_ | refine st11 ?_ | refine st12 ?_)); walk1) | (dsimp only; (fail_if_success with_reducible (first | refine st0 ?_ | refine st1 ?_ | refine st2 ?_ | refine st3 ?_ | refine st4 ?_ | refine st5 ?_ | refine st6 ?_ | refine st7 ?_ | refine st8 ?_ | refine st9 ?_ | refine st10 ?_ | refine st11 ?_ | refine st12 ?_)); walk1) | (leave1; (try dsimp only)) | dsimp only | fail "no step"))
  have hD11 := (N11 _ (.head _)).1
  refine SeqAsk.intro D1 (strValues l) (⟨_, _, hD11, rfl⟩) (walked_list ⟨_, hD11, rfl, _, rfl⟩) (by simp [strValues]; omega) (keep_block rfl (fun _ => rfl) (by decide) (texts_hv hlx)) ?_
  intro D12 h12 tk12 ys12 hD12 hD120 hM12 G12
  obtain ⟨l12, rfl, e12⟩ := matches_strs hM12
  rw [show (strValues l).length = xs.length by simp [strValues, hxlen], kept_map xs fun x => x, ← hfs, List.map_id'] at e12
  have F12 := fr_nil F11 G12
  have N12 := news_new F11 hD120 hD12 (news_nil N11 G12)
  have h12l : l12.length ≤ 3 := by have := congrArg List.length e12; simp only [List.length_map] at this; omega
  clear F11 N11 hM12 G12 hD11
  (repeat' (first | (k_unfold; (try dsimp only)) | ((fail_if_success with_reducible (first | refine st0 ?_ | refine st1 ?_ | refine st2 ?_ | refine st3 ?_ | refine st4 ?_ | refine st5 ?_ | refine st6 ?_ | refine st7 ?_ | refine st8 ?_ | refine st9 ?_ | refine st10 ?_ | refine st11 ?_ | refine st12 ?_ | refine st13 ?_ | refine st14 ?_)); walk1) | (dsimp only; (fail_if_success with_reducible (first | refine st0 ?_ | refine st1 ?_ | refine st2 ?_ | refine st3 ?_ | refine st4 ?_ | refine st5 ?_ | refine st6 ?_ | refine st7 ?_ | refine st8 ?_ | refine st9 ?_ | refine st10 ?_ | refine st11 ?_ | refine st12 ?_ | refine st13 ?_ | refine st14 ?_)); walk1) | (leave1; (try dsimp only)) | dsimp only | fail "no step"))
  rename Fr _ _ _ _ => F13
  rename News _ _ _ _ => N13
  refine add_lists (vs := strValues l12) F13 N13 (N13.isList (.tail _ (.head _))) (N13.isList (.head _)) ?_ (by rw [sizeLine_eq]; simp [strValues]; omega)
  intro h14 F14 N14
  obtain ⟨K, lk, hK, elk, N14⟩ := kept_news e12 N14
  clear F13 N13
  dsimp only at F14 N14 hK ⊢
  rw [← hK]
  (repeat' (first | (k_unfold; (try dsimp only)) | ((fail_if_success with_reducible (first | refine st0 ?_ | refine st1 ?_ | refine st2 ?_ | refine st3 ?_ | refine st4 ?_ | refine st5 ?_ | refine st6 ?_ | refine st7 ?_ | refine st8 ?_ | refine st9 ?_ | refine st10 ?_ | refine st11 ?_ | refine st12 ?_ | refine st13 ?_ | refine st14 ?_)); walk1) | (dsimp only; (fail_if_success with_reducible (first | refine st0 ?_ | refine st1 ?_ | refine st2 ?_ | refine st3 ?_ | refine st4 ?_ | refine st5 ?_ | refine st6 ?_ | refine st7 ?_ | refine st8 ?_ | refine st9 ?_ | refine st10 ?_ | refine st11 ?_ | refine st12 ?_ | refine st13 ?_ | refine st14 ?_)); walk1) | (leave1; (try dsimp only)) | dsimp only | fail "no step"))
  (repeat' (first | (k_unfold; (try dsimp only)) | ((fail_if_success with_reducible (first | refine st0 ?_ | refine st1 ?_ | refine st2 ?_ | refine st3 ?_ | refine st4 ?_ | refine st5 ?_ | refine st6 ?_ | refine st7 ?_ | refine st8 ?_ | refine st9 ?_ | refine st10 ?_ | refine st11 ?_ | refine st12 ?_)); walk1) | (dsimp only; (fail_if_success with_reducible (first | refine st0 ?_ | refine st1 ?_ | refine st2 ?_ | refine st3 ?_ | refine st4 ?_ | refine st5 ?_ | refine st6 ?_ | refine st7 ?_ | refine st8 ?_ | refine st9 ?_ | refine st10 ?_ | refine st11 ?_ | refine st12 ?_)); walk1) | (leave1; (try dsimp only)) | dsimp only | fail "no step"))
  rename Fr _ _ _ _ => F15
  rename News _ _ _ _ => N15
  have hZ := lines_out (fun t ht => (hfr t ht).2) fun t ht => (hfr t ht).1.plain
  refine comp_seq (cl := []) (fun _ => true) (fun _ => StrG fun i => (fs ++ [[]])[i]?.getD []) hA rfl (by decide) rfl (by decide) rfl ?_
  (repeat' (first | (k_unfold; (try dsimp only)) | ((fail_if_success with_reducible (first | refine st0 ?_ | refine st1 ?_ | refine st2 ?_ | refine st3 ?_ | refine st4 ?_ | refine st5 ?_ | refine st6 ?_ | refine st7 ?_ | refine st8 ?_)); walk1) | (dsimp only; (fail_if_success with_reducible (first | refine st0 ?_ | refine st1 ?_ | refine st2 ?_ | refine st3 ?_ | refine st4 ?_ | refine st5 ?_ | refine st6 ?_ | refine st7 ?_ | refine st8 ?_)); walk1) | (leave1; (try dsimp only)) | dsimp only | fail "no step"))
  rename Fr _ _ _ _ => F16
  rename News _ _ _ _ => N16
  obtain ⟨oc0, ocs, hoc⟩ := enc_ne (outT_ne fs)
  refine call_meth N16 (.head _) (from_code (x := outT fs) (sits_of F16 X1 T1) (bag_row N16 (.tail _ (.tail _ (.tail _ (.tail _ (.head _)))))) hps (.inr ⟨_, _, _, rfl, hoc⟩) hsg (by omega) (show A.depth + 1 + 10 < _ by omega) (show A.units + 3 + 60 < _ by omega) hA ?_)
  rintro c17 h17 tk17 gs17 vs17 ps17 L17 V17 hc17 G17 hp17 hps17 ⟨gl17, hgl17, rfl⟩
  rw [hZ] at V17
  have F17 := bag_fr F16 N16 (.tail _ (.tail _ (.tail _ (.tail _ (.head _))))) G17
  have N17 : News gB LB h17 (ledger K b LB lk 0 n4 t4 e4 oC ps17 qs10) := led463 hcd (fun p hp => N16 p (.tail _ hp)) G17 hp17
  clear F16 N16 G17 hp17
  have hzl : ∀ x ∈ fs ++ [[]], x.length ≤ 100000 := fun x hx => by
    rcases List.mem_append.mp hx with hx | hx
    · exact Nat.le_trans (hfr x hx).1.len (by decide)
    · rw [List.mem_singleton.mp hx]; simp
  dsimp only
  refine SeqAsk.intro c17 vs17 L17.seq (walked_ls (X1.keeps F17.keep) L17) (by have := V17.length; simp at this; omega) (str_block X1 T1 F17.keep rfl rfl rfl (fun _ => rfl) (fun _ => rfl) (by decide) V17 hzl (show A.units + 3 + 1 + 1 < _ by omega)) ?_
  intro D18 h18 tk18 ys18 hD18 hD180 hM18 G18
  obtain ⟨l18, rfl, e18⟩ := matches_strs hM18
  rw [V17.length, all_map] at e18
  have F18 := fr_nil F17 G18
  have N18 := news_new F17 hD180 hD18 (news_nil N17 G18)
  clear F17 N17 hM18 G18 L17 V17
  (repeat' (first | (k_unfold; (try dsimp only)) | ((fail_if_success with_reducible (first | refine st0 ?_ | refine st1 ?_ | refine st2 ?_ | refine st3 ?_ | refine st4 ?_ | refine st5 ?_ | refine st6 ?_ | refine st7 ?_ | refine st8 ?_ | refine st9 ?_ | refine st10 ?_ | refine st11 ?_ | refine st12 ?_ | refine st13 ?_ | refine st14 ?_)); walk1) | (dsimp only; (fail_if_success with_reducible (first | refine st0 ?_ | refine st1 ?_ | refine st2 ?_ | refine st3 ?_ | refine st4 ?_ | refine st5 ?_ | refine st6 ?_ | refine st7 ?_ | refine st8 ?_ | refine st9 ?_ | refine st10 ?_ | refine st11 ?_ | refine st12 ?_ | refine st13 ?_ | refine st14 ?_)); walk1) | (leave1; (try dsimp only)) | dsimp only | fail "no step"))
  rename Fr _ _ _ _ => F18
  rename News _ _ _ _ => N18
  have hzs : ∀ z ∈ fs ++ [[]], ∀ c ∈ z, Sign c := fun z hz => by
    rcases List.mem_append.mp hz with hz | hz
    · exact (hfr z hz).1.sign
    · rw [List.mem_singleton.mp hz]; intro c hc; cases hc
  refine ks_ne (N18 _ (.head _)).1 (N18 _ (.tail _ (.head _))).1 (ok_sign e18 hzs) (ok_sign elk hzs) (show A.units + 3 + 64 < _ by omega) ?_
  rw [decide_eq_true (e18.trans elk.symm)]
  replace N18 : News gB LB _ (ledger K b LB lk 0 n4 t4 e4 oC ps17 qs10) := fun p hp => N18 p (.tail _ hp)
  clear e18 hD18 hD180
  (repeat' (first | (k_unfold; (try dsimp only)) | ((fail_if_success with_reducible (first | refine st0 ?_ | refine st1 ?_ | refine st2 ?_ | refine st3 ?_ | refine st4 ?_ | refine st5 ?_ | refine st6 ?_ | refine st7 ?_ | refine st8 ?_ | refine st9 ?_ | refine st10 ?_ | refine st11 ?_ | refine st12 ?_ | refine st13 ?_ | refine st14 ?_)); walk1) | (dsimp only; (fail_if_success with_reducible (first | refine st0 ?_ | refine st1 ?_ | refine st2 ?_ | refine st3 ?_ | refine st4 ?_ | refine st5 ?_ | refine st6 ?_ | refine st7 ?_ | refine st8 ?_ | refine st9 ?_ | refine st10 ?_ | refine st11 ?_ | refine st12 ?_ | refine st13 ?_ | refine st14 ?_)); walk1) | (leave1; (try dsimp only)) | dsimp only | fail "no step"))
  (repeat' (first | (k_unfold; (try dsimp only)) | ((fail_if_success with_reducible (first | refine st0 ?_ | refine st1 ?_ | refine st2 ?_ | refine st3 ?_ | refine st4 ?_ | refine st5 ?_ | refine st6 ?_ | refine st7 ?_ | refine st8 ?_ | refine st9 ?_ | refine st10 ?_ | refine st11 ?_ | refine st12 ?_)); walk1) | (dsimp only; (fail_if_success with_reducible (first | refine st0 ?_ | refine st1 ?_ | refine st2 ?_ | refine st3 ?_ | refine st4 ?_ | refine st5 ?_ | refine st6 ?_ | refine st7 ?_ | refine st8 ?_ | refine st9 ?_ | refine st10 ?_ | refine st11 ?_ | refine st12 ?_)); walk1) | (leave1; (try dsimp only)) | dsimp only | fail "no step"))
  rename Fr _ _ _ _ => F15
  rename News _ _ _ _ => N15
  refine comp_seq (cl := []) (fun _ => true) (fun _ => StrG fun i => (fs ++ [[]])[i]?.getD []) hA rfl (by decide) rfl (by decide) rfl ?_
  (repeat' (first | (k_unfold; (try dsimp only)) | ((fail_if_success with_reducible (first | refine st0 ?_ | refine st1 ?_ | refine st2 ?_ | refine st3 ?_ | refine st4 ?_ | refine st5 ?_ | refine st6 ?_ | refine st7 ?_ | refine st8 ?_)); walk1) | (dsimp only; (fail_if_success with_reducible (first | refine st0 ?_ | refine st1 ?_ | refine st2 ?_ | refine st3 ?_ | refine st4 ?_ | refine st5 ?_ | refine st6 ?_ | refine st7 ?_ | refine st8 ?_)); walk1) | (leave1; (try dsimp only)) | dsimp only | fail "no step"))
  rename Fr _ _ _ _ => F16
  rename News _ _ _ _ => N16
  refine call_meth N16 (.head _) (from_code (x := outT fs) (sits_of F16 X1 T1) (bag_row N16 (.tail _ (.tail _ (.tail _ (.tail _ (.head _)))))) hps17 (.inl ⟨_, rfl⟩) hsg (by omega) (show A.depth + 1 + 10 < _ by omega) (show A.units + 3 + 60 < _ by omega) hA ?_)
  rintro c20 h20 tk20 gs20 vs20 ps20 L20 V20 hc20 G20 hp20 hps20 ⟨gl20, hgl20, rfl⟩
  rw [hZ] at V20
  have F20 := bag_fr F16 N16 (.tail _ (.tail _ (.tail _ (.tail _ (.head _))))) G20
  have N20 : News gB LB h20 (ledger K b LB lk 0 n4 t4 e4 oC ps20 qs10) := led463 hcd (fun p hp => N16 p (.tail _ hp)) G20 hp20
  clear F16 N16 G20 hp20
  dsimp only
  refine SeqAsk.intro c20 vs20 L20.seq (walked_ls (X1.keeps F20.keep) L20) (by have := V20.length; simp at this; omega) (str_block X1 T1 F20.keep rfl rfl rfl (fun _ => rfl) (fun _ => rfl) (by decide) V20 hzl (show A.units + 3 + 1 + 1 < _ by omega)) ?_
  intro D21 h21 tk21 ys21 hD21 hD210 hM21 G21
  obtain ⟨l21, rfl, e21⟩ := matches_strs hM21
  rw [V20.length, all_map] at e21
  have F21 := fr_nil F20 G21
  have N21 := news_new F20 hD210 hD21 (news_nil N20 G21)
  clear F20 N20 hM21 G21 L20 V20
  (repeat' (first | (k_unfold; (try dsimp only)) | ((fail_if_success with_reducible (first | refine st0 ?_ | refine st1 ?_ | refine st2 ?_ | refine st3 ?_ | refine st4 ?_ | refine st5 ?_ | refine st6 ?_ | refine st7 ?_ | refine st8 ?_ | refine st9 ?_ | refine st10 ?_ | refine st11 ?_ | refine st12 ?_ | refine st13 ?_ | refine st14 ?_)); walk1) | (dsimp only; (fail_if_success with_reducible (first | refine st0 ?_ | refine st1 ?_ | refine st2 ?_ | refine st3 ?_ | refine st4 ?_ | refine st5 ?_ | refine st6 ?_ | refine st7 ?_ | refine st8 ?_ | refine st9 ?_ | refine st10 ?_ | refine st11 ?_ | refine st12 ?_ | refine st13 ?_ | refine st14 ?_)); walk1) | (leave1; (try dsimp only)) | dsimp only | fail "no step"))
  rename Fr _ _ _ _ => F21
  rename News _ _ _ _ => N21
  refine ks_ne (N21 _ (.head _)).1 (N21 _ (.tail _ (.head _))).1 (ok_sign e21 hzs) (ok_sign elk hzs) (show A.units + 3 + 64 < _ by omega) ?_
  rw [decide_eq_true (e21.trans elk.symm)]
  replace N21 : News gB LB _ (ledger K b LB lk 0 n4 t4 e4 oC ps20 qs10) := fun p hp => N21 p (.tail _ hp)
  clear e21 hD21 hD210
  (repeat' (first | (k_unfold; (try dsimp only)) | ((fail_if_success with_reducible (first | refine st0 ?_ | refine st1 ?_ | refine st2 ?_ | refine st3 ?_ | refine st4 ?_ | refine st5 ?_ | refine st6 ?_ | refine st7 ?_ | refine st8 ?_ | refine st9 ?_ | refine st10 ?_ | refine st11 ?_ | refine st12 ?_ | refine st13 ?_ | refine st14 ?_)); walk1) | (dsimp only; (fail_if_success with_reducible (first | refine st0 ?_ | refine st1 ?_ | refine st2 ?_ | refine st3 ?_ | refine st4 ?_ | refine st5 ?_ | refine st6 ?_ | refine st7 ?_ | refine st8 ?_ | refine st9 ?_ | refine st10 ?_ | refine st11 ?_ | refine st12 ?_ | refine st13 ?_ | refine st14 ?_)); walk1) | (leave1; (try dsimp only)) | dsimp only | fail "no step"))
  rename Fr _ _ _ _ => F21
  rename News _ _ _ _ => N21
  refine unfolded_spec (sits_of F21 X1 T1) (by rw [str_len_txt]; omega) (show A.depth + 1 + 1 < _ by omega) (show A.units + 3 + 8 < _ by omega) hA ?_
  rintro v22 h22 tk22 ⟨t22, rfl⟩ G22
  have F22 := fr_nil F21 G22
  have N22 := news_nil N21 G22
  clear F21 N21 G22
  (repeat' (first | (k_unfold; (try dsimp only)) | ((fail_if_success with_reducible (first | refine st0 ?_ | refine st1 ?_ | refine st2 ?_ | refine st3 ?_ | refine st4 ?_ | refine st5 ?_ | refine st6 ?_ | refine st7 ?_ | refine st8 ?_ | refine st9 ?_ | refine st10 ?_ | refine st11 ?_ | refine st12 ?_ | refine st13 ?_ | refine st14 ?_)); walk1) | (dsimp only; (fail_if_success with_reducible (first | refine st0 ?_ | refine st1 ?_ | refine st2 ?_ | refine st3 ?_ | refine st4 ?_ | refine st5 ?_ | refine st6 ?_ | refine st7 ?_ | refine st8 ?_ | refine st9 ?_ | refine st10 ?_ | refine st11 ?_ | refine st12 ?_ | refine st13 ?_ | refine st14 ?_)); walk1) | (leave1; (try dsimp only)) | dsimp only | fail "no step"))
  rename Fr _ _ _ _ => F22
  rename News _ _ _ _ => N22
  refine lines_spec (sits_of F22 X1 T1) (by rw [str_len_txt, cps_txt]; have := unf_le (outT fs); omega) (show A.depth + 1 + 1 < _ by omega) (show A.units + 3 + 8 < _ by omega) hA ?_
  rintro v23 h23 tk23 ⟨a23, l23, e23, rfl, ha23, hn23, el23⟩ G23
  rw [cps_txt, cps_txt, lines_full, hZ] at el23
  have F23 := fr_nil F22 G23
  have N23 := news_new F22 hn23 ha23 (news_nil N22 G23)
  clear F22 N22 G23
  (repeat' (first | (k_unfold; (try dsimp only)) | ((fail_if_success with_reducible (first | refine st0 ?_ | refine st1 ?_ | refine st2 ?_ | refine st3 ?_ | refine st4 ?_ | refine st5 ?_ | refine st6 ?_ | refine st7 ?_ | refine st8 ?_ | refine st9 ?_ | refine st10 ?_ | refine st11 ?_ | refine st12 ?_ | refine st13 ?_ | refine st14 ?_)); walk1) | (dsimp only; (fail_if_success with_reducible (first | refine st0 ?_ | refine st1 ?_ | refine st2 ?_ | refine st3 ?_ | refine st4 ?_ | refine st5 ?_ | refine st6 ?_ | refine st7 ?_ | refine st8 ?_ | refine st9 ?_ | refine st10 ?_ | refine st11 ?_ | refine st12 ?_ | refine st13 ?_ | refine st14 ?_)); walk1) | (leave1; (try dsimp only)) | dsimp only | fail "no step"))
  rename Fr _ _ _ _ => F23
  rename News _ _ _ _ => N23
  refine ks_ne (N23 _ (.head _)).1 (N23 _ (.tail _ (.head _))).1 (ok_sign el23 hzs) (ok_sign elk hzs) (show A.units + 3 + 64 < _ by omega) ?_
  rw [decide_eq_true (el23.trans elk.symm)]
  replace N23 : News gB LB _ [(b, bagO n4 t4 e4), (LB + 1, oC), (463, tabObj ps20), (456, tabObj qs10)] := fun p hp => N23 p (.tail _ (.tail _ hp))
  clear el23 ha23 hn23
  have htl : (txt (outT fs)).length ≤ 100000 := by rw [str_len_txt]; omega
  (repeat' (first | (k_unfold; (try dsimp only)) | ((fail_if_success with_reducible (first | refine st0 ?_ | refine st1 ?_ | refine st2 ?_ | refine st3 ?_ | refine st4 ?_ | refine st5 ?_ | refine st6 ?_ | refine st7 ?_ | refine st8 ?_ | refine st9 ?_ | refine st10 ?_ | refine st11 ?_ | refine st12 ?_ | refine st13 ?_ | refine st14 ?_)); walk1) | (dsimp only; (fail_if_success with_reducible (first | refine st0 ?_ | refine st1 ?_ | refine st2 ?_ | refine st3 ?_ | refine st4 ?_ | refine st5 ?_ | refine st6 ?_ | refine st7 ?_ | refine st8 ?_ | refine st9 ?_ | refine st10 ?_ | refine st11 ?_ | refine st12 ?_ | refine st13 ?_ | refine st14 ?_)); walk1) | (leave1; (try dsimp only)) | dsimp only | fail "no step"))
  clear hlx hxs hxl hD4 hD40 z4 hb4 hll hxlen hD4' elk e12 e8 hzl hZ hoc hzs h12l htl bne
  rename Fr _ _ _ _ => F24
  rename News _ _ _ _ => N24
  have hs0 : Txt.slice (txt (outT fs)) none (some 160) = txt ((outT fs).take 160) := slice_to_nat (txt (outT fs)) 160
  rw [hs0] at F24
  refine' For_invVF F24 rfl rfl ?_
  (repeat' (first | (k_unfold; (try dsimp only)) | ((fail_if_success with_reducible (first | refine st0 ?_ | refine st1 ?_ | refine st2 ?_ | refine st3 ?_ | refine st4 ?_ | refine st5 ?_ | refine st6 ?_ | refine st7 ?_ | refine st8 ?_ | refine st9 ?_ | refine st10 ?_ | refine st11 ?_ | refine st12 ?_ | refine st13 ?_ | refine st14 ?_)); walk1) | (dsimp only; (fail_if_success with_reducible (first | refine st0 ?_ | refine st1 ?_ | refine st2 ?_ | refine st3 ?_ | refine st4 ?_ | refine st5 ?_ | refine st6 ?_ | refine st7 ?_ | refine st8 ?_ | refine st9 ?_ | refine st10 ?_ | refine st11 ?_ | refine st12 ?_ | refine st13 ?_ | refine st14 ?_)); walk1) | (leave1; (try dsimp only)) | dsimp only | fail "no step"))
  rename Fr _ _ _ _ => F24
  rename News _ _ _ _ => N24
  have bne3 := led_bne hcd N24
  refine draw_spec (sits_of F24 X1 T1) (bag_row N24 (.head _)) hn4 (by decide) (by decide) (show A.depth + 1 + 1 < _ by omega) (show A.units + 3 + 8 < _ by omega) ?_
  rintro v25 h25 tk25 ⟨u25, rfl⟩ ⟨t25, e25, B25⟩ G25
  have F25 := bag_fr F24 N24 (.head _) G25
  have N25 := news_upd [] _ N24 bne3 G25 B25
  clear F24 N24 G25 B25
  simp only [List.nil_append] at N25
  (repeat' (first | (k_unfold; (try dsimp only)) | ((fail_if_success with_reducible (first | refine st0 ?_ | refine st1 ?_ | refine st2 ?_ | refine st3 ?_ | refine st4 ?_ | refine st5 ?_ | refine st6 ?_ | refine st7 ?_ | refine st8 ?_ | refine st9 ?_ | refine st10 ?_ | refine st11 ?_ | refine st12 ?_ | refine st13 ?_ | refine st14 ?_)); walk1) | (dsimp only; (fail_if_success with_reducible (first | refine st0 ?_ | refine st1 ?_ | refine st2 ?_ | refine st3 ?_ | refine st4 ?_ | refine st5 ?_ | refine st6 ?_ | refine st7 ?_ | refine st8 ?_ | refine st9 ?_ | refine st10 ?_ | refine st11 ?_ | refine st12 ?_ | refine st13 ?_ | refine st14 ?_)); walk1) | (leave1; (try dsimp only)) | dsimp only | fail "no step"))
  rename Fr _ _ _ _ => F26
  rename News _ _ _ _ => N26
  rename (IsRange _ _ _ _ _ _ _ _) => R26
  have hk26 : 1 + n4 % 4 = ((1 + n4 % 4).toNat : Int) := by have := Int.emod_nonneg n4 (show (4 : Int) ≠ 0 by decide); omega
  have hk26b : (1 + n4 % 4).toNat ≤ 4 := by have := Int.emod_lt_of_pos n4 (show (0 : Int) < 4 by decide); omega
  rw [hk26] at R26
  refine' iter_range (fun i m nx => ∃ x tx n t e, m (Str.ofString "near") = some (.str (txt x) tx) ∧ nx = [(b, bagO n t e), (LB + 1, oC), (463, tabObj ps20), (456, tabObj qs10)] ∧ 0 ≤ n ∧ (∀ c ∈ x, Sign c) ∧ x.length ≤ 160 + 4 * i) hA R26 (by omega) F26 N26 ?j0 ?turn ?done
  case j0 => exact ⟨_, _, _, _, _, rfl, rfl, Int.ediv_nonneg hn4 (by decide), fun c hc => hsg c (List.mem_of_mem_take hc), by rw [List.length_take]; omega⟩
  case turn =>
    rintro i v m₁ news₁ h₁ tk₁ own hi hadr hoff ⟨x, tx, n2, t3, e3, e1, rfl, hn2, hxs2, hxl2⟩ F2 N2
    clear F26 N26
    rw [← if_at e1] at F2
    dsimp only at F2
    simp only [List.cons_append, List.nil_append] at N2
    have hxl3 : (txt x).length ≤ 1000 := by rw [str_len_txt]; omega
    replace F2 : Fr gB LB h₁ _ := F2
    replace N2 : News gB LB h₁ _ := N2
    try k_fold
    (repeat' (first | (k_unfold; (try dsimp only)) | ((fail_if_success with_reducible (first | refine st0 ?_ | refine st1 ?_ | refine st2 ?_ | refine st3 ?_ | refine st4 ?_ | refine st5 ?_ | refine st6 ?_ | refine st7 ?_ | refine st8 ?_ | refine st9 ?_ | refine st10 ?_ | refine st11 ?_ | refine st12 ?_ | refine st13 ?_ | refine st14 ?_)); walk1) | (dsimp only; (fail_if_success with_reducible (first | refine st0 ?_ | refine st1 ?_ | refine st2 ?_ | refine st3 ?_ | refine st4 ?_ | refine st5 ?_ | refine st6 ?_ | refine st7 ?_ | refine st8 ?_ | refine st9 ?_ | refine st10 ?_ | refine st11 ?_ | refine st12 ?_ | refine st13 ?_ | refine st14 ?_)); walk1) | (leave1; (try dsimp only)) | dsimp only | fail "no step"))
    rename Fr _ _ _ _ => F2
    rename News _ _ _ _ => N2
    have hown : ∀ p ∈ [(LB + 1, oC), ((463 : Addr), tabObj ps20), (456, tabObj qs10)] ++ own, p.1 ≠ b := fun p hp => by
      rcases List.mem_append.mp hp with hp | hp
      · exact bne3 p hp
      · exact fun q => hoff p hp b (.head _) q
    have hkk : ((txt x).length : Int) + 1 = (x.length : Int) + 1 := by rw [str_len_txt]
    rw [hkk]
    refine draw_spec (sits_of F2 X1 T1) (bag_row N2 (.head _)) hn2 (by omega) (by omega) (show A.depth + 1 + 1 < _ by omega) (show A.units + 3 + 8 < _ by omega) ?_
    rintro v2 h2 tk2 ⟨u2, rfl⟩ ⟨t4', e5, B2⟩ G2
    replace F2 := bag_fr F2 N2 (.head _) G2
    replace N2 := news_upd [] ([(LB + 1, oC), ((463 : Addr), tabObj ps20), (456, tabObj qs10)] ++ own) N2 hown G2 B2
    clear G2 B2
    simp only [List.cons_append, List.nil_append] at N2
    have hp0 : 0 ≤ n2 % ((x.length : Int) + 1) := Int.emod_nonneg _ (by omega)
    have hp1 : n2 % ((x.length : Int) + 1) < (x.length : Int) + 1 := Int.emod_lt_of_pos _ (by omega)
    have hn3 : 0 ≤ n2 / ((x.length : Int) + 1) := Int.ediv_nonneg hn2 (by omega)
    obtain ⟨pl, hpl⟩ : ∃ pl : Nat, n2 % ((x.length : Int) + 1) = (pl : Int) := ⟨(n2 % ((x.length : Int) + 1)).toNat, by omega⟩
    rw [hpl] at hp1 ⊢
    generalize n2 / ((x.length : Int) + 1) = n3 at hn3 N2 ⊢
    (repeat' (first | (k_unfold; (try dsimp only)) | ((fail_if_success with_reducible (first | refine st0 ?_ | refine st1 ?_ | refine st2 ?_ | refine st3 ?_ | refine st4 ?_ | refine st5 ?_ | refine st6 ?_ | refine st7 ?_ | refine st8 ?_ | refine st9 ?_ | refine st10 ?_ | refine st11 ?_ | refine st12 ?_ | refine st13 ?_ | refine st14 ?_)); walk1) | (dsimp only; (fail_if_success with_reducible (first | refine st0 ?_ | refine st1 ?_ | refine st2 ?_ | refine st3 ?_ | refine st4 ?_ | refine st5 ?_ | refine st6 ?_ | refine st7 ?_ | refine st8 ?_ | refine st9 ?_ | refine st10 ?_ | refine st11 ?_ | refine st12 ?_ | refine st13 ?_ | refine st14 ?_)); walk1) | (leave1; (try dsimp only)) | dsimp only | fail "no step"))
    rename Fr _ _ _ _ => F2
    rename News _ _ _ _ => N2
    rename (@LT.lt Nat _ b _ ∧ _) => l1m
    obtain ⟨ml, hml, lbm⟩ : ∃ ml, ml = _ ∧ @LT.lt Nat _ b ml := ⟨_, rfl, l1m.1⟩
    subst hml
    obtain ⟨mv, hmv, N2⟩ : ∃ mv, MarksV mv ∧ News gB LB _ ((ml, W.listOf mv 0) :: (b, bagO n3 _ _) :: ([(LB + 1, oC), ((463 : Addr), tabObj ps20), (456, tabObj qs10)] ++ own)) := ⟨_, marks_ok _ _ _ _ _ _ _ _, N2⟩
    refine draw_spec (sits_of F2 X1 T1) (bag_row N2 (.tail _ (.head _))) hn3 (by decide) (by decide) (show A.depth + 1 + 1 < _ by omega) (show A.units + 3 + 8 < _ by omega) ?_
    rintro v2 h2 tk2 ⟨u3, rfl⟩ ⟨t5', e6, B2⟩ G2
    replace F2 := bag_fr F2 N2 (.tail _ (.head _)) G2
    replace N2 := news_upd [_] ([(LB + 1, oC), ((463 : Addr), tabObj ps20), (456, tabObj qs10)] ++ own) N2 (fun p hp => by
      rcases List.mem_cons.mp hp with rfl | hp
      · exact Nat.ne_of_gt lbm
      · exact hown p hp) G2 B2
    clear G2 B2
    simp only [List.cons_append, List.nil_append] at N2
    have hq0 : 0 ≤ n3 % 8 := Int.emod_nonneg _ (by decide)
    have hq1 : n3 % 8 < 8 := Int.emod_lt_of_pos _ (by decide)
    have hn5 : 0 ≤ n3 / 8 := Int.ediv_nonneg hn3 (by decide)
    generalize n3 % 8 = q8 at hq0 hq1 ⊢
    generalize n3 / 8 = n5 at hn5 N2 ⊢
    obtain ⟨y, ty, hy1, hy⟩ := hmv.2 q8.toNat (by omega)
    have hyl : (txt y).length ≤ 1000 := by rw [str_len_txt]; have := hy.len; omega
    (repeat' (first | (k_unfold; (try dsimp only)) | ((fail_if_success with_reducible (first | refine st0 ?_ | refine st1 ?_ | refine st2 ?_ | refine st3 ?_ | refine st4 ?_ | refine st5 ?_ | refine st6 ?_ | refine st7 ?_ | refine st8 ?_ | refine st9 ?_ | refine st10 ?_ | refine st11 ?_ | refine st12 ?_ | refine st13 ?_ | refine st14 ?_)); walk1) | (dsimp only; (fail_if_success with_reducible (first | refine st0 ?_ | refine st1 ?_ | refine st2 ?_ | refine st3 ?_ | refine st4 ?_ | refine st5 ?_ | refine st6 ?_ | refine st7 ?_ | refine st8 ?_ | refine st9 ?_ | refine st10 ?_ | refine st11 ?_ | refine st12 ?_ | refine st13 ?_ | refine st14 ?_)); walk1) | (leave1; (try dsimp only)) | dsimp only | fail "no step"))
    rename Fr _ _ _ _ => F2
    rename News _ _ _ _ => N2
    have hSL := News.isList N2 (.head _)
    refine tail_any hSL.typeIs slot_list_getitem.lookup (wpAny_getItem_list hSL hq0 (by omega) hy1 ?_) (by with_unfolding_all rfl)
    clear hSL
    (repeat' (first | (k_unfold; (try dsimp only)) | ((fail_if_success with_reducible (first | refine st0 ?_ | refine st1 ?_ | refine st2 ?_ | refine st3 ?_ | refine st4 ?_ | refine st5 ?_ | refine st6 ?_ | refine st7 ?_ | refine st8 ?_ | refine st9 ?_ | refine st10 ?_ | refine st11 ?_ | refine st12 ?_ | refine st13 ?_ | refine st14 ?_)); walk1) | (dsimp only; (fail_if_success with_reducible (first | refine st0 ?_ | refine st1 ?_ | refine st2 ?_ | refine st3 ?_ | refine st4 ?_ | refine st5 ?_ | refine st6 ?_ | refine st7 ?_ | refine st8 ?_ | refine st9 ?_ | refine st10 ?_ | refine st11 ?_ | refine st12 ?_ | refine st13 ?_ | refine st14 ?_)); walk1) | (leave1; (try dsimp only)) | dsimp only | fail "no step"))
    rename Fr _ _ _ _ => F2
    rename News _ _ _ _ => N2
    have hput : Txt.slice (txt x) none (some (pl : Int)) ++ txt y ++ Txt.slice (txt x) (some (pl : Int)) none = txt (putIn x y pl) := by
      rw [slice_to_nat, slice_from_nat, txt_append, txt_append]
      rfl
    rw [hput] at F2
    have hple : pl ≤ x.length := by omega
    exact InvEndN.intro F2 N2 ⟨_, _, n5, _, _, rfl, rfl, hn5, put_sign hxs2 hy.sign, by rw [put_len hple]; have := hy.len; omega⟩ rfl
      (fun p hp => .tail _ ((List.mem_append (s := [(b, bagO n5 _ _), (LB + 1, oC), ((463 : Addr), tabObj ps20), (456, tabObj qs10)]) (t := own)).mpr (.inl hp)))
      (fun p hp => .tail _ ((List.mem_append (s := [(b, bagO n5 _ _), (LB + 1, oC), ((463 : Addr), tabObj ps20), (456, tabObj qs10)]) (t := own)).mpr (.inr hp)))
  case done =>
    rintro m₁ news₁ h₁ tk₁ ⟨x, tx, n2, t3, e3, e1, rfl, hn2, hxs2, hxl2⟩ F2 N2
    clear F26 N26
    rw [← if_at e1] at F2
    replace F2 : Fr gB LB h₁ _ := F2
    replace N2 : News gB LB h₁ _ := N2
    try k_fold
    (repeat' (first | (k_unfold; (try dsimp only)) | ((fail_if_success with_reducible (first | refine st0 ?_ | refine st1 ?_ | refine st2 ?_ | refine st3 ?_ | refine st4 ?_ | refine st5 ?_ | refine st6 ?_ | refine st7 ?_ | refine st8 ?_ | refine st9 ?_ | refine st10 ?_ | refine st11 ?_ | refine st12 ?_ | refine st13 ?_ | refine st14 ?_)); walk1) | (dsimp only; (fail_if_success with_reducible (first | refine st0 ?_ | refine st1 ?_ | refine st2 ?_ | refine st3 ?_ | refine st4 ?_ | refine st5 ?_ | refine st6 ?_ | refine st7 ?_ | refine st8 ?_ | refine st9 ?_ | refine st10 ?_ | refine st11 ?_ | refine st12 ?_ | refine st13 ?_ | refine st14 ?_)); walk1) | (leave1; (try dsimp only)) | dsimp only | fail "no step"))
    (repeat' (first | (k_unfold; (try dsimp only)) | ((fail_if_success with_reducible (first | refine st0 ?_ | refine st1 ?_ | refine st2 ?_ | refine st3 ?_ | refine st4 ?_ | refine st5 ?_ | refine st6 ?_ | refine st7 ?_ | refine st8 ?_)); walk1) | (dsimp only; (fail_if_success with_reducible (first | refine st0 ?_ | refine st1 ?_ | refine st2 ?_ | refine st3 ?_ | refine st4 ?_ | refine st5 ?_ | refine st6 ?_ | refine st7 ?_ | refine st8 ?_)); walk1) | (leave1; (try dsimp only)) | dsimp only | fail "no step"))
    rename Fr _ _ _ _ => F3
    rename News _ _ _ _ => N3
    refine call_meth N3 (.head _) (from_code (x := x) (sits_of F3 X1 T1) (bag_row N3 (.tail _ (.tail _ (.tail _ (.head _))))) hps20 (.inl ⟨_, rfl⟩) hxs2 (by omega) (show A.depth + 1 + 10 < _ by omega) (show A.units + 3 + 60 < _ by omega) hA ?_)
    rintro c30 h30 tk30 gs30 vs30 ps30 L30 V30 hc30 G30 hp30 hps30 ⟨gl30, hgl30, rfl⟩
    have F30 := bag_fr F3 N3 (.tail _ (.tail _ (.tail _ (.head _)))) G30
    have N30 := led4_463 hcd (fun p hp => N3 p (.tail _ hp)) G30 hp30
    have hheld := held_of (B := 176) hxs2 (by omega)
    obtain ⟨zs, hzs⟩ : ∃ zs, zs = full (unf x) ++ [[]] := ⟨_, rfl⟩
    rw [← hzs] at V30 hheld
    obtain ⟨d30, nn30, c30o, d30o⟩ := L30
    obtain ⟨rw1, W1, _, W2⟩ := txts_rows F30 (x := Str.ofString "near") rfl V30
    obtain ⟨rw2, Q1, _, Q2⟩ := rows_of F30 [(c30, lsO d30 vs30.toArray nn30), (d30, emptyDict)] (fun p hp => by
      rcases List.mem_cons.mp hp with rfl | hp
      · refine ⟨c30o, fun (q : c30 = LB) => ?_⟩
        obtain ⟨o, _, _, e, _⟩ := F3.ns
        rw [← q, hc30] at e; cases e
      · rw [List.mem_singleton.mp hp]
        exact ⟨d30o, fun (q : d30 = LB) => (ns_obj F30.ns (x := Str.ofString "near") rfl _ (by rw [← q]; exact d30o)).1 rfl⟩)
    have N31 : News gB LB h30 ((b, bagO n2 t3 e3) :: (LB + 1, oC) :: (463, tabObj ps30) :: (456, tabObj qs10) :: (rw2 ++ rw1)) := by
      intro p hp
      rcases (List.mem_append (s := [(b, bagO n2 t3 e3), (LB + 1, oC), ((463 : Addr), tabObj ps30), (456, tabObj qs10)]) (t := rw2 ++ rw1)).mp hp with hp | hp
      · exact N30 p hp
      · exact news_app Q1 W1 p hp
    have hvl : vs30.length ≤ 178 := by have h1 := V30.length; have h2 := hheld.count; omega
    have hzl2 : ∀ z ∈ zs, z.length ≤ 100000 := fun z hz => Nat.le_trans (hheld.len z hz) (by decide)
    clear F3 N3 F2 N2 N30 W1 Q1 c30o d30o hc30 G30
    dsimp only
    (repeat' (first | (k_unfold; (try dsimp only)) | ((fail_if_success with_reducible (first | refine st0 ?_ | refine st1 ?_ | refine st2 ?_ | refine st3 ?_ | refine st4 ?_ | refine st5 ?_ | refine st6 ?_ | refine st7 ?_ | refine st8 ?_ | refine st9 ?_ | refine st10 ?_ | refine st11 ?_ | refine st12 ?_ | refine st13 ?_ | refine st14 ?_)); walk1) | (dsimp only; (fail_if_success with_reducible (first | refine st0 ?_ | refine st1 ?_ | refine st2 ?_ | refine st3 ?_ | refine st4 ?_ | refine st5 ?_ | refine st6 ?_ | refine st7 ?_ | refine st8 ?_ | refine st9 ?_ | refine st10 ?_ | refine st11 ?_ | refine st12 ?_ | refine st13 ?_ | refine st14 ?_)); walk1) | (leave1; (try dsimp only)) | dsimp only | fail "no step"))
    (repeat' (first | (k_unfold; (try dsimp only)) | ((fail_if_success with_reducible (first | refine st0 ?_ | refine st1 ?_ | refine st2 ?_ | refine st3 ?_ | refine st4 ?_ | refine st5 ?_ | refine st6 ?_ | refine st7 ?_ | refine st8 ?_ | refine st9 ?_ | refine st10 ?_ | refine st11 ?_ | refine st12 ?_)); walk1) | (dsimp only; (fail_if_success with_reducible (first | refine st0 ?_ | refine st1 ?_ | refine st2 ?_ | refine st3 ?_ | refine st4 ?_ | refine st5 ?_ | refine st6 ?_ | refine st7 ?_ | refine st8 ?_ | refine st9 ?_ | refine st10 ?_ | refine st11 ?_ | refine st12 ?_)); walk1) | (leave1; (try dsimp only)) | dsimp only | fail "no step"))
    rename Fr _ _ _ _ => F32
    rename News _ _ _ _ => N32
    refine comp_seq (cl := []) (fun _ => true) (fun _ => StrG fun i => zs[i]?.getD []) hA rfl (by decide) rfl (by decide) rfl ?_
    (repeat' (first | (k_unfold; (try dsimp only)) | ((fail_if_success with_reducible (first | refine st0 ?_ | refine st1 ?_ | refine st2 ?_ | refine st3 ?_ | refine st4 ?_ | refine st5 ?_ | refine st6 ?_ | refine st7 ?_ | refine st8 ?_ | refine st9 ?_ | refine st10 ?_ | refine st11 ?_ | refine st12 ?_ | refine st13 ?_ | refine st14 ?_)); walk1) | (dsimp only; (fail_if_success with_reducible (first | refine st0 ?_ | refine st1 ?_ | refine st2 ?_ | refine st3 ?_ | refine st4 ?_ | refine st5 ?_ | refine st6 ?_ | refine st7 ?_ | refine st8 ?_ | refine st9 ?_ | refine st10 ?_ | refine st11 ?_ | refine st12 ?_ | refine st13 ?_ | refine st14 ?_)); walk1) | (leave1; (try dsimp only)) | dsimp only | fail "no step"))
    have V32 := W2 _ _ F32 (fun p hp => N32 p (.tail _ (.tail _ (.tail _ (.tail _ (List.mem_append.mpr (.inr hp)))))))
    have Q32 := Q2 _ _ F32 (fun p hp => N32 p (.tail _ (.tail _ (.tail _ (.tail _ (List.mem_append.mpr (.inl hp)))))))
    have H32 : LsAt _ c30 vs30.toArray := ⟨d30, nn30, Q32 _ (.head _), Q32 _ (.tail _ (.head _))⟩
    refine SeqAsk.intro c30 vs30 H32.seq (walked_ls (X1.keeps F32.keep) H32) (by omega) (str_block X1 T1 F32.keep rfl rfl rfl (fun _ => rfl) (fun _ => rfl) (by decide) V32 hzl2 (show A.units + 3 + 1 + 1 < _ by omega)) ?_
    intro D33 h33 tk33 ys33 hD33 hD330 hM33 G33
    obtain ⟨l33, rfl, e33⟩ := matches_strs hM33
    rw [V32.length, all_map] at e33
    have F33 := fr_nil F32 G33
    have N33 := news_new F32 hD330 hD33 (news_nil N32 G33)
    clear F32 N32 hM33 G33 H32 V32 Q32
    (repeat' (first | (k_unfold; (try dsimp only)) | ((fail_if_success with_reducible (first | refine st0 ?_ | refine st1 ?_ | refine st2 ?_ | refine st3 ?_ | refine st4 ?_ | refine st5 ?_ | refine st6 ?_ | refine st7 ?_ | refine st8 ?_ | refine st9 ?_ | refine st10 ?_ | refine st11 ?_ | refine st12 ?_ | refine st13 ?_ | refine st14 ?_)); walk1) | (dsimp only; (fail_if_success with_reducible (first | refine st0 ?_ | refine st1 ?_ | refine st2 ?_ | refine st3 ?_ | refine st4 ?_ | refine st5 ?_ | refine st6 ?_ | refine st7 ?_ | refine st8 ?_ | refine st9 ?_ | refine st10 ?_ | refine st11 ?_ | refine st12 ?_ | refine st13 ?_ | refine st14 ?_)); walk1) | (leave1; (try dsimp only)) | dsimp only | fail "no step"))
    rename Fr _ _ _ _ => F33
    rename News _ _ _ _ => N33
    refine unfolded_spec (sits_of F33 X1 T1) (by rw [str_len_txt]; omega) (show A.depth + 1 + 1 < _ by omega) (show A.units + 3 + 8 < _ by omega) hA ?_
    rintro v34 h34 tk34 ⟨t34, rfl⟩ G34
    have F34 := fr_nil F33 G34
    have N34 := news_nil N33 G34
    clear F33 N33 G34
    (repeat' (first | (k_unfold; (try dsimp only)) | ((fail_if_success with_reducible (first | refine st0 ?_ | refine st1 ?_ | refine st2 ?_ | refine st3 ?_ | refine st4 ?_ | refine st5 ?_ | refine st6 ?_ | refine st7 ?_ | refine st8 ?_ | refine st9 ?_ | refine st10 ?_ | refine st11 ?_ | refine st12 ?_ | refine st13 ?_ | refine st14 ?_)); walk1) | (dsimp only; (fail_if_success with_reducible (first | refine st0 ?_ | refine st1 ?_ | refine st2 ?_ | refine st3 ?_ | refine st4 ?_ | refine st5 ?_ | refine st6 ?_ | refine st7 ?_ | refine st8 ?_ | refine st9 ?_ | refine st10 ?_ | refine st11 ?_ | refine st12 ?_ | refine st13 ?_ | refine st14 ?_)); walk1) | (leave1; (try dsimp only)) | dsimp only | fail "no step"))
    rename Fr _ _ _ _ => F34
    rename News _ _ _ _ => N34
    refine lines_spec (sits_of F34 X1 T1) (by rw [str_len_txt, cps_txt]; have := unf_le x; omega) (show A.depth + 1 + 1 < _ by omega) (show A.units + 3 + 8 < _ by omega) hA ?_
    rintro v35 h35 tk35 ⟨a35, l35, e35, rfl, ha35, hn35, el35⟩ G35
    rw [cps_txt, cps_txt, lines_full, ← hzs] at el35
    have F35 := fr_nil F34 G35
    have N35 := news_new F34 hn35 ha35 (news_nil N34 G35)
    clear F34 N34 G35
    (repeat' (first | (k_unfold; (try dsimp only)) | ((fail_if_success with_reducible (first | refine st0 ?_ | refine st1 ?_ | refine st2 ?_ | refine st3 ?_ | refine st4 ?_ | refine st5 ?_ | refine st6 ?_ | refine st7 ?_ | refine st8 ?_ | refine st9 ?_ | refine st10 ?_ | refine st11 ?_ | refine st12 ?_ | refine st13 ?_ | refine st14 ?_)); walk1) | (dsimp only; (fail_if_success with_reducible (first | refine st0 ?_ | refine st1 ?_ | refine st2 ?_ | refine st3 ?_ | refine st4 ?_ | refine st5 ?_ | refine st6 ?_ | refine st7 ?_ | refine st8 ?_ | refine st9 ?_ | refine st10 ?_ | refine st11 ?_ | refine st12 ?_ | refine st13 ?_ | refine st14 ?_)); walk1) | (leave1; (try dsimp only)) | dsimp only | fail "no step"))
    rename Fr _ _ _ _ => F35
    rename News _ _ _ _ => N35
    refine ks_ne (N35 _ (.tail _ (.head _))).1 (N35 _ (.head _)).1 (ok_sign e33 hheld.sign) (ok_sign el35 hheld.sign) (show A.units + 3 + 64 < _ by omega) ?_
    rw [decide_eq_true (e33.trans el35.symm)]
    replace N35 : News gB LB _ ((b, bagO n2 t3 e3) :: (LB + 1, oC) :: (463, tabObj ps30) :: (456, tabObj qs10) :: (rw2 ++ rw1)) := fun p hp => N35 p (.tail _ (.tail _ hp))
    clear e33 hD33 hD330 el35 ha35 hn35
    (repeat' (first | (k_unfold; (try dsimp only)) | ((fail_if_success with_reducible (first | refine st0 ?_ | refine st1 ?_ | refine st2 ?_ | refine st3 ?_ | refine st4 ?_ | refine st5 ?_ | refine st6 ?_ | refine st7 ?_ | refine st8 ?_ | refine st9 ?_ | refine st10 ?_ | refine st11 ?_ | refine st12 ?_ | refine st13 ?_ | refine st14 ?_)); walk1) | (dsimp only; (fail_if_success with_reducible (first | refine st0 ?_ | refine st1 ?_ | refine st2 ?_ | refine st3 ?_ | refine st4 ?_ | refine st5 ?_ | refine st6 ?_ | refine st7 ?_ | refine st8 ?_ | refine st9 ?_ | refine st10 ?_ | refine st11 ?_ | refine st12 ?_ | refine st13 ?_ | refine st14 ?_)); walk1) | (leave1; (try dsimp only)) | dsimp only | fail "no step"))
    rename Fr _ _ _ _ => F35
    rename News _ _ _ _ => N35
    refine comp_seq_store (cl := []) (fun _ => true) (fun _ => StrG fun i => zs[i]?.getD []) hA rfl rfl (by decide) rfl (by decide) rfl rfl rfl ?_
    (repeat' (first | (k_unfold; (try dsimp only)) | ((fail_if_success with_reducible (first | refine st0 ?_ | refine st1 ?_ | refine st2 ?_ | refine st3 ?_ | refine st4 ?_ | refine st5 ?_ | refine st6 ?_ | refine st7 ?_ | refine st8 ?_ | refine st9 ?_ | refine st10 ?_ | refine st11 ?_ | refine st12 ?_ | refine st13 ?_ | refine st14 ?_)); walk1) | (dsimp only; (fail_if_success with_reducible (first | refine st0 ?_ | refine st1 ?_ | refine st2 ?_ | refine st3 ?_ | refine st4 ?_ | refine st5 ?_ | refine st6 ?_ | refine st7 ?_ | refine st8 ?_ | refine st9 ?_ | refine st10 ?_ | refine st11 ?_ | refine st12 ?_ | refine st13 ?_ | refine st14 ?_)); walk1) | (leave1; (try dsimp only)) | dsimp only | fail "no step"))
    have V36 := W2 _ _ F35 (fun p hp => N35 p (.tail _ (.tail _ (.tail _ (.tail _ (List.mem_append.mpr (.inr hp)))))))
    have Q36 := Q2 _ _ F35 (fun p hp => N35 p (.tail _ (.tail _ (.tail _ (.tail _ (List.mem_append.mpr (.inl hp)))))))
    have H36 : LsAt _ c30 vs30.toArray := ⟨d30, nn30, Q36 _ (.head _), Q36 _ (.tail _ (.head _))⟩
    refine SeqAskS.intro c30 vs30 _ H36.seq (walked_ls (X1.keeps F35.keep) H36) (by omega) (str_block X1 T1 F35.keep rfl rfl rfl (fun _ => rfl) (fun _ => rfl) (by decide) V36 hzl2 (show A.units + 3 + 1 + 1 < _ by omega)) F35.ns ?_
    intro D36 h36 tk36 ys36 hns36 hD36 hD360 hM36 G36
    obtain ⟨l36, rfl, e36⟩ := matches_strs hM36
    rw [V36.length, all_map] at e36
    have F36 : Fr gB LB h36 _ := ⟨hns36, fun b' o e => G36.keep b' o (fun q => Nat.ne_of_lt (Nat.lt_of_lt_of_le (Heap.lt_size e) F35.above) (List.mem_singleton.mp q)) (F35.keep b' o e), F35.above⟩
    have N36 := news_new F35 hD360 hD36 (news_grew N35 G36 fun p hp q => (N35 p hp).2.1 (List.mem_singleton.mp q))
    clear F35 N35 hM36 G36 H36 V36 Q36 hns36
    (repeat' (first | (k_unfold; (try dsimp only)) | ((fail_if_success with_reducible (first | refine st0 ?_ | refine st1 ?_ | refine st2 ?_ | refine st3 ?_ | refine st4 ?_ | refine st5 ?_ | refine st6 ?_ | refine st7 ?_ | refine st8 ?_ | refine st9 ?_ | refine st10 ?_ | refine st11 ?_ | refine st12 ?_ | refine st13 ?_ | refine st14 ?_)); walk1) | (dsimp only; (fail_if_success with_reducible (first | refine st0 ?_ | refine st1 ?_ | refine st2 ?_ | refine st3 ?_ | refine st4 ?_ | refine st5 ?_ | refine st6 ?_ | refine st7 ?_ | refine st8 ?_ | refine st9 ?_ | refine st10 ?_ | refine st11 ?_ | refine st12 ?_ | refine st13 ?_ | refine st14 ?_)); walk1) | (leave1; (try dsimp only)) | dsimp only | fail "no step"))
    (repeat' (first | (k_unfold; (try dsimp only)) | ((fail_if_success with_reducible (first | refine st0 ?_ | refine st1 ?_ | refine st2 ?_ | refine st3 ?_ | refine st4 ?_ | refine st5 ?_ | refine st6 ?_ | refine st7 ?_ | refine st8 ?_ | refine st9 ?_ | refine st10 ?_ | refine st11 ?_ | refine st12 ?_)); walk1) | (dsimp only; (fail_if_success with_reducible (first | refine st0 ?_ | refine st1 ?_ | refine st2 ?_ | refine st3 ?_ | refine st4 ?_ | refine st5 ?_ | refine st6 ?_ | refine st7 ?_ | refine st8 ?_ | refine st9 ?_ | refine st10 ?_ | refine st11 ?_ | refine st12 ?_)); walk1) | (leave1; (try dsimp only)) | dsimp only | fail "no step"))
    rename Fr _ _ _ _ => F37
    rename News _ _ _ _ => N37
    refine comp_seq (cl := []) (fun i => headWs (zs[i]?.getD [])) (fun _ => StrG fun i => zs[i]?.getD []) hA rfl (by decide) rfl (by decide) rfl ?_
    (repeat' (first | (k_unfold; (try dsimp only)) | ((fail_if_success with_reducible (first | refine st0 ?_ | refine st1 ?_ | refine st2 ?_ | refine st3 ?_ | refine st4 ?_ | refine st5 ?_ | refine st6 ?_ | refine st7 ?_ | refine st8 ?_ | refine st9 ?_ | refine st10 ?_ | refine st11 ?_ | refine st12 ?_ | refine st13 ?_ | refine st14 ?_)); walk1) | (dsimp only; (fail_if_success with_reducible (first | refine st0 ?_ | refine st1 ?_ | refine st2 ?_ | refine st3 ?_ | refine st4 ?_ | refine st5 ?_ | refine st6 ?_ | refine st7 ?_ | refine st8 ?_ | refine st9 ?_ | refine st10 ?_ | refine st11 ?_ | refine st12 ?_ | refine st13 ?_ | refine st14 ?_)); walk1) | (leave1; (try dsimp only)) | dsimp only | fail "no step"))
    have hl36 : l36.length ≤ 178 := by have h1 := congrArg List.length e36; simp only [List.length_map] at h1; have h2 := hheld.count; omega
    have hD37 := (N37 _ (.head _)).1
    refine SeqAsk.intro D36 (strValues l36) (⟨_, _, hD37, rfl⟩) (walked_list ⟨_, hD37, rfl, _, rfl⟩) (by simp [strValues]; omega) (head_block (fun _ => rfl) (texts_hv e36) hzl2) ?_
    intro D38 h38 tk38 ys38 hD38 hD380 hM38 G38
    obtain ⟨l38, rfl, e38⟩ := matches_strs hM38
    rw [show (strValues l36).length = zs.length by have h1 := congrArg List.length e36; simp only [List.length_map] at h1; simp [strValues, h1]] at e38
    have F38 := fr_nil F37 G38
    have N38 := news_new F37 hD380 hD38 (news_nil N37 G38)
    clear F37 N37 hM38 G38 hD37
    (repeat' (first | (k_unfold; (try dsimp only)) | ((fail_if_success with_reducible (first | refine st0 ?_ | refine st1 ?_ | refine st2 ?_ | refine st3 ?_ | refine st4 ?_ | refine st5 ?_ | refine st6 ?_ | refine st7 ?_ | refine st8 ?_ | refine st9 ?_ | refine st10 ?_ | refine st11 ?_ | refine st12 ?_ | refine st13 ?_ | refine st14 ?_)); walk1) | (dsimp only; (fail_if_success with_reducible (first | refine st0 ?_ | refine st1 ?_ | refine st2 ?_ | refine st3 ?_ | refine st4 ?_ | refine st5 ?_ | refine st6 ?_ | refine st7 ?_ | refine st8 ?_ | refine st9 ?_ | refine st10 ?_ | refine st11 ?_ | refine st12 ?_ | refine st13 ?_ | refine st14 ?_)); walk1) | (leave1; (try dsimp only)) | dsimp only | fail "no step"))
    rename Fr _ _ _ _ => F39
    rename News _ _ _ _ => N39
    have hok38 : ∀ x ∈ l38.map (·.1), PyData.strOk x = true := ok_sign e38 fun z hz => by
      obtain ⟨i, hi, rfl⟩ := List.mem_map.mp hz
      cases q : zs[i]? with
      | none => intro c hc; cases hc
      | some z => exact hheld.sign z (List.mem_of_getElem? q)
    refine ks_ne (k := []) (N39 _ (.tail _ (.head _))).1 (N39 _ (.head _)).1 hok38 (fun _ h => (nomatch h)) (show A.units + 3 + 64 < _ by omega) ?_
    by_cases hw : l38.map (·.1) = []
    · rw [decide_eq_true (show l38.map (·.1) = ([] : List (Str × Tok)).map (·.1) from hw)]
      (repeat' (first | (k_unfold; (try dsimp only)) | ((fail_if_success with_reducible (first | refine st0 ?_ | refine st1 ?_ | refine st2 ?_ | refine st3 ?_ | refine st4 ?_ | refine st5 ?_ | refine st6 ?_ | refine st7 ?_ | refine st8 ?_ | refine st9 ?_ | refine st10 ?_ | refine st11 ?_ | refine st12 ?_ | refine st13 ?_ | refine st14 ?_)); walk1) | (dsimp only; (fail_if_success with_reducible (first | refine st0 ?_ | refine st1 ?_ | refine st2 ?_ | refine st3 ?_ | refine st4 ?_ | refine st5 ?_ | refine st6 ?_ | refine st7 ?_ | refine st8 ?_ | refine st9 ?_ | refine st10 ?_ | refine st11 ?_ | refine st12 ?_ | refine st13 ?_ | refine st14 ?_)); walk1) | (leave1; (try dsimp only)) | dsimp only | fail "no step"))
      rename Fr _ _ _ _ => F39
      rename News _ _ _ _ => N39
      have hnb : ∀ t ∈ full (unf x), ∀ c ∈ t.head?, c ≠ 32 ∧ c ≠ 9 := by
        intro t ht c hc
        have hmem : t ∈ zs := by rw [hzs]; exact List.mem_append.mpr (.inl ht)
        obtain ⟨i, hi, hit⟩ := List.mem_iff_getElem.mp hmem
        have h0 : ((List.range zs.length).filter fun i => headWs (zs[i]?.getD [])) = [] := by
          have := congrArg List.length e38
          rw [hw] at this
          simp only [List.length_nil, List.length_map] at this
          exact List.eq_nil_of_length_eq_zero this.symm
        have h1 := List.filter_eq_nil_iff.mp h0 i (List.mem_range.mpr hi)
        rw [List.getElem?_eq_getElem hi, hit] at h1
        simp only [Option.getD_some] at h1
        unfold headWs at h1
        refine ⟨fun q => h1 ?_, fun q => h1 ?_⟩
        · rw [show t.head? = some 32 by rw [← q]; exact hc]; rfl
        · rw [show t.head? = some 9 by rw [← q]; exact hc]; rfl
      refine comp_seq (cl := []) (fun _ => true) (fun _ => StrG fun i => zs[i]?.getD []) hA rfl (by decide) rfl (by decide) rfl ?_
      (repeat' (first | (k_unfold; (try dsimp only)) | ((fail_if_success with_reducible (first | refine st0 ?_ | refine st1 ?_ | refine st2 ?_ | refine st3 ?_ | refine st4 ?_ | refine st5 ?_ | refine st6 ?_ | refine st7 ?_ | refine st8 ?_ | refine st9 ?_ | refine st10 ?_ | refine st11 ?_ | refine st12 ?_ | refine st13 ?_ | refine st14 ?_)); walk1) | (dsimp only; (fail_if_success with_reducible (first | refine st0 ?_ | refine st1 ?_ | refine st2 ?_ | refine st3 ?_ | refine st4 ?_ | refine st5 ?_ | refine st6 ?_ | refine st7 ?_ | refine st8 ?_ | refine st9 ?_ | refine st10 ?_ | refine st11 ?_ | refine st12 ?_ | refine st13 ?_ | refine st14 ?_)); walk1) | (leave1; (try dsimp only)) | dsimp only | fail "no step"))
      walk1
      (repeat' (first | (k_unfold; (try dsimp only)) | ((fail_if_success with_reducible (first | refine st0 ?_ | refine st1 ?_ | refine st2 ?_ | refine st3 ?_ | refine st4 ?_ | refine st5 ?_ | refine st6 ?_ | refine st7 ?_ | refine st8 ?_ | refine st9 ?_ | refine st10 ?_ | refine st11 ?_ | refine st12 ?_ | refine st13 ?_ | refine st14 ?_)); walk1) | (dsimp only; (fail_if_success with_reducible (first | refine st0 ?_ | refine st1 ?_ | refine st2 ?_ | refine st3 ?_ | refine st4 ?_ | refine st5 ?_ | refine st6 ?_ | refine st7 ?_ | refine st8 ?_ | refine st9 ?_ | refine st10 ?_ | refine st11 ?_ | refine st12 ?_ | refine st13 ?_ | refine st14 ?_)); walk1) | (leave1; (try dsimp only)) | dsimp only | fail "no step"))
      rename Fr _ _ _ _ => F40
      rename News _ _ _ _ => N40
      have V40 := W2 _ _ F40 (fun p hp => N40 p (.tail _ (.tail _ (.tail _ (.tail _ (.tail _ (.tail _ (.tail _ (.tail _ (List.mem_append.mpr (.inr hp)))))))))))
      have Q40 := Q2 _ _ F40 (fun p hp => N40 p (.tail _ (.tail _ (.tail _ (.tail _ (.tail _ (.tail _ (.tail _ (.tail _ (List.mem_append.mpr (.inl hp)))))))))))
      have H40 : LsAt _ c30 vs30.toArray := ⟨d30, nn30, Q40 _ (.head _), Q40 _ (.tail _ (.head _))⟩
      refine ls_method_toical (X1.keeps F40.keep) H40 ?_
      (repeat' (first | (k_unfold; (try dsimp only)) | ((fail_if_success with_reducible (first | refine st0 ?_ | refine st1 ?_ | refine st2 ?_ | refine st3 ?_ | refine st4 ?_ | refine st5 ?_ | refine st6 ?_ | refine st7 ?_ | refine st8 ?_ | refine st9 ?_ | refine st10 ?_ | refine st11 ?_ | refine st12 ?_ | refine st13 ?_ | refine st14 ?_)); walk1) | (dsimp only; (fail_if_success with_reducible (first | refine st0 ?_ | refine st1 ?_ | refine st2 ?_ | refine st3 ?_ | refine st4 ?_ | refine st5 ?_ | refine st6 ?_ | refine st7 ?_ | refine st8 ?_ | refine st9 ?_ | refine st10 ?_ | refine st11 ?_ | refine st12 ?_ | refine st13 ?_ | refine st14 ?_)); walk1) | (leave1; (try dsimp only)) | dsimp only | fail "no step"))
      rename Fr _ _ _ _ => F40
      rename News _ _ _ _ => N40
      refine to_spec (sits_of F40 X1 T1) (bag_row N40 (.tail _ (.tail _ (.tail _ (.tail _ (.tail _ (.tail _ (.tail _ (.head _))))))))) hqs10 H40 V40 (fun t ht => ⟨Nat.le_trans (hheld.len t ht) (by decide), hheld.nl t ht, hheld.sign t ht⟩) (Nat.le_trans hheld.count (by decide)) (show A.depth + 1 + 10 < _ by omega) (show A.units + 3 + 60 < _ by omega) hA ?_
      intro h41 tk41 gs41 t41 qs41 G41 hq41 hqs41 hgl41
      rw [hzs, filter_full, ← hzs]
      obtain ⟨gl41, hgl41, rfl⟩ := hgl41
      have F41 := bag_fr F40 N40 (.tail _ (.tail _ (.tail _ (.tail _ (.tail _ (.tail _ (.tail _ (.head _)))))))) G41
      have NL : News gB LB _ (ledger D36 b LB l36 (strValues l36).length n2 t3 e3 oC ps30 qs10) := fun p hp => N40 p (by
        refine .tail _ (.tail _ (.tail _ ?_))
        rcases List.mem_cons.mp hp with rfl | hp
        · exact .head _
        rcases List.mem_cons.mp hp with rfl | hp
        · exact .tail _ (.head _)
        rcases List.mem_cons.mp hp with rfl | hp
        · exact .tail _ (.tail _ (.head _))
        rcases List.mem_cons.mp hp with rfl | hp
        · exact .tail _ (.tail _ (.tail _ (.head _)))
        rw [List.mem_singleton.mp hp]
        exact .tail _ (.tail _ (.tail _ (.tail _ (.head _)))))
      have NQ := N40 _ (.head _)
      have hq456 := ne_of_obj N40 (.head _) (.tail _ (.tail _ (.tail _ (.tail _ (.tail _ (.tail _ (.tail _ (.head _)))))))) (fun q => by have := congrArg Obj.cls q; cases this)
      have NL41 := led456 hcd NL G41 hq41
      have N41 : News gB LB h41 (_ :: ledger D36 b LB l36 (strValues l36).length n2 t3 e3 oC ps30 qs41) := fun p hp => by
        rcases List.mem_cons.mp hp with rfl | hp
        · exact ⟨G41.keep _ _ (fun q => hq456 (List.mem_singleton.mp q)) NQ.1, NQ.2⟩
        · exact NL41 p hp
      clear F40 N40 V40 Q40 H40 NL NQ NL41 G41 hq456 W2 Q2
      (repeat' (first | (k_unfold; (try dsimp only)) | ((fail_if_success with_reducible (first | refine st0 ?_ | refine st1 ?_ | refine st2 ?_ | refine st3 ?_ | refine st4 ?_ | refine st5 ?_ | refine st6 ?_ | refine st7 ?_ | refine st8 ?_ | refine st9 ?_ | refine st10 ?_ | refine st11 ?_ | refine st12 ?_ | refine st13 ?_ | refine st14 ?_)); walk1) | (dsimp only; (fail_if_success with_reducible (first | refine st0 ?_ | refine st1 ?_ | refine st2 ?_ | refine st3 ?_ | refine st4 ?_ | refine st5 ?_ | refine st6 ?_ | refine st7 ?_ | refine st8 ?_ | refine st9 ?_ | refine st10 ?_ | refine st11 ?_ | refine st12 ?_ | refine st13 ?_ | refine st14 ?_)); walk1) | (leave1; (try dsimp only)) | dsimp only | fail "no step"))
      rename Fr _ _ _ _ => F42
      rename News _ _ _ _ => N42
      have hsg2 : ∀ c ∈ outT (full (unf x)), Sign c := outT_mem fun t ht c hc => hheld.sign t (by rw [hzs]; exact List.mem_append.mpr (.inl ht)) c hc
      have hol2 := outT_len (B := 176) (x := x) (by omega)
      obtain ⟨oc1, ocs1, hoc1⟩ := enc_ne (outT_ne (full (unf x)))
      refine call_meth N42 (.head _) (from_code (x := outT (full (unf x))) (sits_of F42 X1 T1) (bag_row N42 (.tail _ (.tail _ (.tail _ (.tail _ (.head _)))))) hps30 (.inr ⟨_, _, _, rfl, hoc1⟩) hsg2 (by omega) (show A.depth + 1 + 10 < _ by omega) (show A.units + 3 + 60 < _ by omega) hA ?_)
      rintro c43 h43 tk43 gs43 vs43 ps43 L43 V43 hc43 G43 hp43 hps43 ⟨gl43, hgl43, rfl⟩
      rw [again_out hnb, ← hzs] at V43
      have F43 := bag_fr F42 N42 (.tail _ (.tail _ (.tail _ (.tail _ (.head _))))) G43
      have N43 := led463 hcd (fun p hp => N42 p (.tail _ hp)) G43 hp43
      clear F42 N42 G43
      dsimp only
      refine SeqAsk.intro c43 vs43 L43.seq (walked_ls (X1.keeps F43.keep) L43) (by have := V43.length; have := hheld.count; omega) (str_block X1 T1 F43.keep rfl rfl rfl (fun _ => rfl) (fun _ => rfl) (by decide) V43 hzl2 (show A.units + 3 + 1 + 1 < _ by omega)) ?_
      intro D44 h44 tk44 ys44 hD44 hD440 hM44 G44
      obtain ⟨l44, rfl, e44⟩ := matches_strs hM44
      rw [V43.length, all_map] at e44
      have F44 := fr_nil F43 G44
      have N44 := news_new F43 hD440 hD44 (news_nil N43 G44)
      clear F43 N43 hM44 G44 L43 V43
      (repeat' (first | (k_unfold; (try dsimp only)) | ((fail_if_success with_reducible (first | refine st0 ?_ | refine st1 ?_ | refine st2 ?_ | refine st3 ?_ | refine st4 ?_ | refine st5 ?_ | refine st6 ?_ | refine st7 ?_ | refine st8 ?_ | refine st9 ?_ | refine st10 ?_ | refine st11 ?_ | refine st12 ?_ | refine st13 ?_ | refine st14 ?_)); walk1) | (dsimp only; (fail_if_success with_reducible (first | refine st0 ?_ | refine st1 ?_ | refine st2 ?_ | refine st3 ?_ | refine st4 ?_ | refine st5 ?_ | refine st6 ?_ | refine st7 ?_ | refine st8 ?_ | refine st9 ?_ | refine st10 ?_ | refine st11 ?_ | refine st12 ?_ | refine st13 ?_ | refine st14 ?_)); walk1) | (leave1; (try dsimp only)) | dsimp only | fail "no step"))
      rename Fr _ _ _ _ => F44
      rename News _ _ _ _ => N44
      refine ks_eq (N44 _ (.head _)).1 (N44 _ (.tail _ (.head _))).1 (ok_sign e44 hheld.sign) (ok_sign e36 hheld.sign) (show A.units + 3 + 64 < _ by omega) ?_
      rw [decide_eq_true (e44.trans e36.symm)]
      (repeat' (first | (k_unfold; (try dsimp only)) | ((fail_if_success with_reducible (first | refine st0 ?_ | refine st1 ?_ | refine st2 ?_ | refine st3 ?_ | refine st4 ?_ | refine st5 ?_ | refine st6 ?_ | refine st7 ?_ | refine st8 ?_ | refine st9 ?_ | refine st10 ?_ | refine st11 ?_ | refine st12 ?_ | refine st13 ?_ | refine st14 ?_)); walk1) | (dsimp only; (fail_if_success with_reducible (first | refine st0 ?_ | refine st1 ?_ | refine st2 ?_ | refine st3 ?_ | refine st4 ?_ | refine st5 ?_ | refine st6 ?_ | refine st7 ?_ | refine st8 ?_ | refine st9 ?_ | refine st10 ?_ | refine st11 ?_ | refine st12 ?_ | refine st13 ?_ | refine st14 ?_)); walk1) | (leave1; (try dsimp only)) | dsimp only | fail "no step"))
      rename Fr _ _ _ _ => F45
      rename News _ _ _ _ => N45
      exact hret _ _ _ (U1.grew F45) ⟨_, (N45 _ (.tail _ (.tail _ (.tail _ (.tail _ (.head _)))))).1⟩ ⟨_, (N45 _ (.tail _ (.tail _ (.tail _ (.tail _ (.tail _ (.head _))))))).1⟩ ⟨gl10 ++ gl17 ++ gl20 ++ gl30 ++ gl41 ++ gl43, fun y hy => by
        simp only [List.mem_append] at hy
        rcases hy with ((((h | h) | h) | h) | h) | h
        · exact hgl10 y h
        · exact hgl17 y h
        · exact hgl20 y h
        · exact hgl30 y h
        · exact hgl41 y h
        · exact hgl43 y h, by simp⟩
    · rw [decide_eq_false (show ¬ l38.map (·.1) = ([] : List (Str × Tok)).map (·.1) from hw)]
      (repeat' (first | (k_unfold; (try dsimp only)) | ((fail_if_success with_reducible (first | refine st0 ?_ | refine st1 ?_ | refine st2 ?_ | refine st3 ?_ | refine st4 ?_ | refine st5 ?_ | refine st6 ?_ | refine st7 ?_ | refine st8 ?_ | refine st9 ?_ | refine st10 ?_ | refine st11 ?_ | refine st12 ?_)); walk1) | (dsimp only; (fail_if_success with_reducible (first | refine st0 ?_ | refine st1 ?_ | refine st2 ?_ | refine st3 ?_ | refine st4 ?_ | refine st5 ?_ | refine st6 ?_ | refine st7 ?_ | refine st8 ?_ | refine st9 ?_ | refine st10 ?_ | refine st11 ?_ | refine st12 ?_)); walk1) | (leave1; (try dsimp only)) | dsimp only | fail "no step"))
      rename Fr _ _ _ _ => F39
      rename News _ _ _ _ => N39
      obtain ⟨l0, y0, hl0⟩ : ∃ l0 y0, l36 = l0 ++ [y0] := by
        have hne : l36 ≠ [] := fun q => by
          have := congrArg List.length e36
          rw [q, hzs] at this
          simp at this
        exact ⟨l36.dropLast, l36.getLast hne, (List.dropLast_concat_getLast hne).symm⟩
      have hy0 : y0.1 = txt [] := by
        rw [hl0, hzs, List.map_append, List.map_append] at e36
        have := (List.append_inj' e36 rfl).2
        exact (List.cons.inj this).1
      obtain ⟨y0s, y0t⟩ := y0
      replace hy0 : y0s = txt [] := hy0
      subst hy0
      have hLL := News.isList N39 (.tail _ (.tail _ (.head _)))
      refine kde_neg (j := l0.length) (v := .str (txt []) y0t) hLL (by decide) (by decide) ?_ ?_ ?_
      · rw [hl0]; simp [seqIndex?, strValues]; omega
      · rw [hl0]; simp [strValues]
      clear hLL
      (repeat' (first | (k_unfold; (try dsimp only)) | ((fail_if_success with_reducible (first | refine st0 ?_ | refine st1 ?_ | refine st2 ?_ | refine st3 ?_ | refine st4 ?_ | refine st5 ?_ | refine st6 ?_ | refine st7 ?_ | refine st8 ?_ | refine st9 ?_ | refine st10 ?_ | refine st11 ?_ | refine st12 ?_)); walk1) | (dsimp only; (fail_if_success with_reducible (first | refine st0 ?_ | refine st1 ?_ | refine st2 ?_ | refine st3 ?_ | refine st4 ?_ | refine st5 ?_ | refine st6 ?_ | refine st7 ?_ | refine st8 ?_ | refine st9 ?_ | refine st10 ?_ | refine st11 ?_ | refine st12 ?_)); walk1) | (leave1; (try dsimp only)) | dsimp only | fail "no step"))
      rw [show (txt [] == Str.ofString "") = true from by rw [ofs_empty]; exact beq_iff_eq.mpr rfl]
      exact hret _ _ _ (U1.grew F39) ⟨_, (N39 _ (.tail _ (.tail _ (.tail _ (.tail _ (.tail _ (.head _))))))).1⟩ ⟨_, (N39 _ (.tail _ (.tail _ (.tail _ (.tail _ (.tail _ (.tail _ (.head _)))))))).1⟩ ⟨gl10 ++ gl17 ++ gl20 ++ gl30, fun y hy => by
        simp only [List.mem_append] at hy
        rcases hy with ((h | h) | h) | h
        · exact hgl10 y h
        · exact hgl17 y h
        · exact hgl20 y h
        · exact hgl30 y h, by simp⟩
end
end Mine
theorem PySem.Challenge.cw_be0022_01_holds : PySem.Challenge.rw_be0022_01.Holds :=
  Mine.hd (by
  k_fill
  intro w s₀ s₁ mg mb G Y fa o pm cd doc dV kV ho hd hcd hD hmg hg args vals as hpre hlay hrd hwl hlo
  have KX := km_in_of Y
  have hT8 := km_tabs_of Y
  have X := (Ground.X G).1
  refine Ground.open G ?_
  intro T B D TE TW
  wrow_args hpre hlay hrd hwl hlo
  have hfa : fa = 516 := by
    have h1 := mg_of (n := Str.ofString "law") (v := .ref 516) KX (Top.g T) (by kernel_rfl)
    have h2 : mg (Str.ofString "law") = some (.ref fa) := hmg
    have h3 := h1.symm.trans h2
    injection h3 with h3
    injection h3 with h3
    exact h3.symm
  subst hfa
  rename (Heap.IsList _ _ _) => hL
  rename (IntsAre _ _) => hI
  have hTabs : TabsAt [((467 : Addr), (463 : Addr)), (460, 456)] s₁.heap := fun q hq => by
    rcases List.mem_cons.mp hq with rfl | hq
    · exact ⟨codeHd_of_K KX (by kernel_rfl), hT8 463 (.head _)⟩
    · rw [List.mem_singleton.mp hq]
      exact ⟨codeHd_of_K KX (by kernel_rfl), hT8 456 (.tail _ (.head _))⟩
  have S : Mine.Sits w _ _ _ (ghostOf s₁.heap [((467 : Addr), (463 : Addr)), (460, 456)]) s₁.heap := ⟨fun b o e => of_hideAll _ e, Nat.le_of_eq (hideAll_size _ _), ghost_K hTabs KX (by kernel_rfl), ghost_top hTabs T⟩
  refine Mine.law_spec (ps := #[]) (qs := #[]) S (fun p hp => ?_) trivial trivial hL hI (by omega) (by decide) (by decide) rfl ?_
  · rcases List.mem_cons.mp hp with rfl | hp
    · exact ⟨hT8 463 (.head _), hideAll_none _ (.head _)⟩
    · rw [List.mem_singleton.mp hp]
      exact ⟨hT8 456 (.tail _ (.head _)), hideAll_none _ (.tail _ (.head _))⟩
  · intro h' tk' gs' G' hp463 hp456 hgl
    obtain ⟨ps', hp463⟩ := hp463
    obtain ⟨qs', hp456⟩ := hp456
    obtain ⟨gl, hgl, rfl⟩ := hgl
    refine ⟨.inl ⟨_, _, [], rfl, fun _ => rfl, ReadsW.bool true, ?post, fun _ => ⟨List.nodup_nil, fun _ hm => (nomatch hm)⟩⟩, ⟨fun b o e => ?old, fun b o e => ?there⟩, rfl, ?bare⟩
    case post => first | rfl | wrow_post
    case old =>
      by_cases h1 : b = 463
      · subst h1
        rw [hT8 463 (.head _)] at e
        cases e
        exact .inr (.inl ⟨((hTabs _ (.head _)).1.tab (hT8 463 (.head _))).isCodeTable, rfl, #[], ps', rfl, by simpa using hp463⟩)
      · by_cases h2 : b = 456
        · subst h2
          rw [hT8 456 (.tail _ (.head _))] at e
          cases e
          exact .inr (.inl ⟨((hTabs _ (.tail _ (.head _))).1.tab (hT8 456 (.tail _ (.head _)))).isCodeTable, rfl, #[], qs', rfl, by simpa using hp456⟩)
        · exact .inl (G'.keep b o (fun q => by
            rcases List.mem_cons.mp q with q | q
            · exact h1 q
            · exact h2 (List.mem_singleton.mp q)) e)
    case there =>
      by_cases h1 : b = 463
      · exact ⟨_, h1 ▸ hp463⟩
      · by_cases h2 : b = 456
        · exact ⟨_, h2 ▸ hp456⟩
        · exact ⟨o, G'.keep b o (fun q => by
            rcases List.mem_cons.mp q with q | q
            · exact h1 q
            · exact h2 (List.mem_singleton.mp q)) e⟩
    case bare =>
      intro y hy
      rw [hg] at hy
      exact hgl y (by simpa using hy))
