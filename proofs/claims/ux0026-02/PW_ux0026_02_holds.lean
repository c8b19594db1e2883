import PyProof.Rows.All
import Wide.All
import OpenK.AllK
import Wide.FinOn
import PySem.Challenge.RW_ux0026_02
open PySem PySem.W PyProof.Rows
set_option Elab.async false
set_option linter.all false
set_option maxRecDepth 100000
set_option maxHeartbeats 8000000
set_option compiler.extract_closed false
section
namespace Mine
/-! the head: the written-out part of the heap; the functions' parameters, bodies and scopes are taken from the row -/
noncomputable def kE (P : Params) (s : String) (t : Tok) (v : Value) : DictEntry := DictEntry.mk (PyData.keyHash P (Str.ofString s)) (Value.str (Str.ofString s) t) v
noncomputable def fnOfS (s : Option Stmt) : Arguments × List Stmt × Scope := match s with | some (.FunctionDef _ ps b _ _ _ sc _ _ _) => (ps, b, sc) | _ => default
noncomputable def fnAt (p : Program) (i : Nat) : Arguments × List Stmt × Scope := fnOfS p.main.body[i]?
noncomputable def meAt (p : Program) (i j : Nat) : Arguments × List Stmt × Scope := match p.main.body[i]? with | some (.ClassDef _ _ _ b _ _ _ _ _ _ _) => fnOfS b[j]? | _ => default
noncomputable def f1p : Arguments := by
  refine (?f : ∀ b : Arguments, (fnAt PySem.Challenge.pw_ux0026_02 1).1 = b → Arguments) ?b ?h
  case h => conv => lhs; whnf
  case f => exact fun b _ => b
noncomputable def f1b : List Stmt := by
  refine (?f : ∀ b : List Stmt, (fnAt PySem.Challenge.pw_ux0026_02 1).2.1 = b → List Stmt) ?b ?h
  case h => conv => lhs; whnf
  case f => exact fun b _ => b
noncomputable def f1s : Scope := by
  refine (?f : ∀ b : Scope, (fnAt PySem.Challenge.pw_ux0026_02 1).2.2 = b → Scope) ?b ?h
  case h => conv => lhs; whnf
  case f => exact fun b _ => b
noncomputable def f13p : Arguments := by
  refine (?f : ∀ b : Arguments, (fnAt PySem.Challenge.pw_ux0026_02 13).1 = b → Arguments) ?b ?h
  case h => conv => lhs; whnf
  case f => exact fun b _ => b
noncomputable def f13b : List Stmt := by
  refine (?f : ∀ b : List Stmt, (fnAt PySem.Challenge.pw_ux0026_02 13).2.1 = b → List Stmt) ?b ?h
  case h => conv => lhs; whnf
  case f => exact fun b _ => b
noncomputable def f13s : Scope := by
  refine (?f : ∀ b : Scope, (fnAt PySem.Challenge.pw_ux0026_02 13).2.2 = b → Scope) ?b ?h
  case h => conv => lhs; whnf
  case f => exact fun b _ => b
noncomputable def f16p : Arguments := by
  refine (?f : ∀ b : Arguments, (fnAt PySem.Challenge.pw_ux0026_02 16).1 = b → Arguments) ?b ?h
  case h => conv => lhs; whnf
  case f => exact fun b _ => b
noncomputable def f16b : List Stmt := by
  refine (?f : ∀ b : List Stmt, (fnAt PySem.Challenge.pw_ux0026_02 16).2.1 = b → List Stmt) ?b ?h
  case h => conv => lhs; whnf
  case f => exact fun b _ => b
noncomputable def f16s : Scope := by
  refine (?f : ∀ b : Scope, (fnAt PySem.Challenge.pw_ux0026_02 16).2.2 = b → Scope) ?b ?h
  case h => conv => lhs; whnf
  case f => exact fun b _ => b
noncomputable def f17p : Arguments := by
  refine (?f : ∀ b : Arguments, (fnAt PySem.Challenge.pw_ux0026_02 17).1 = b → Arguments) ?b ?h
  case h => conv => lhs; whnf
  case f => exact fun b _ => b
noncomputable def f17b : List Stmt := by
  refine (?f : ∀ b : List Stmt, (fnAt PySem.Challenge.pw_ux0026_02 17).2.1 = b → List Stmt) ?b ?h
  case h => conv => lhs; whnf
  case f => exact fun b _ => b
noncomputable def f17s : Scope := by
  refine (?f : ∀ b : Scope, (fnAt PySem.Challenge.pw_ux0026_02 17).2.2 = b → Scope) ?b ?h
  case h => conv => lhs; whnf
  case f => exact fun b _ => b
noncomputable def f18p : Arguments := by
  refine (?f : ∀ b : Arguments, (fnAt PySem.Challenge.pw_ux0026_02 18).1 = b → Arguments) ?b ?h
  case h => conv => lhs; whnf
  case f => exact fun b _ => b
noncomputable def f18b : List Stmt := by
  refine (?f : ∀ b : List Stmt, (fnAt PySem.Challenge.pw_ux0026_02 18).2.1 = b → List Stmt) ?b ?h
  case h => conv => lhs; whnf
  case f => exact fun b _ => b
noncomputable def f18s : Scope := by
  refine (?f : ∀ b : Scope, (fnAt PySem.Challenge.pw_ux0026_02 18).2.2 = b → Scope) ?b ?h
  case h => conv => lhs; whnf
  case f => exact fun b _ => b
noncomputable def f19p : Arguments := by
  refine (?f : ∀ b : Arguments, (fnAt PySem.Challenge.pw_ux0026_02 19).1 = b → Arguments) ?b ?h
  case h => conv => lhs; whnf
  case f => exact fun b _ => b
noncomputable def f19b : List Stmt := by
  refine (?f : ∀ b : List Stmt, (fnAt PySem.Challenge.pw_ux0026_02 19).2.1 = b → List Stmt) ?b ?h
  case h => conv => lhs; whnf
  case f => exact fun b _ => b
noncomputable def f19s : Scope := by
  refine (?f : ∀ b : Scope, (fnAt PySem.Challenge.pw_ux0026_02 19).2.2 = b → Scope) ?b ?h
  case h => conv => lhs; whnf
  case f => exact fun b _ => b
noncomputable def f20p : Arguments := by
  refine (?f : ∀ b : Arguments, (fnAt PySem.Challenge.pw_ux0026_02 20).1 = b → Arguments) ?b ?h
  case h => conv => lhs; whnf
  case f => exact fun b _ => b
noncomputable def f20b : List Stmt := by
  refine (?f : ∀ b : List Stmt, (fnAt PySem.Challenge.pw_ux0026_02 20).2.1 = b → List Stmt) ?b ?h
  case h => conv => lhs; whnf
  case f => exact fun b _ => b
noncomputable def f20s : Scope := by
  refine (?f : ∀ b : Scope, (fnAt PySem.Challenge.pw_ux0026_02 20).2.2 = b → Scope) ?b ?h
  case h => conv => lhs; whnf
  case f => exact fun b _ => b
noncomputable def f21p : Arguments := by
  refine (?f : ∀ b : Arguments, (fnAt PySem.Challenge.pw_ux0026_02 21).1 = b → Arguments) ?b ?h
  case h => conv => lhs; whnf
  case f => exact fun b _ => b
noncomputable def f21b : List Stmt := by
  refine (?f : ∀ b : List Stmt, (fnAt PySem.Challenge.pw_ux0026_02 21).2.1 = b → List Stmt) ?b ?h
  case h => conv => lhs; whnf
  case f => exact fun b _ => b
noncomputable def f21s : Scope := by
  refine (?f : ∀ b : Scope, (fnAt PySem.Challenge.pw_ux0026_02 21).2.2 = b → Scope) ?b ?h
  case h => conv => lhs; whnf
  case f => exact fun b _ => b
noncomputable def f22p : Arguments := by
  refine (?f : ∀ b : Arguments, (fnAt PySem.Challenge.pw_ux0026_02 22).1 = b → Arguments) ?b ?h
  case h => conv => lhs; whnf
  case f => exact fun b _ => b
noncomputable def f22b : List Stmt := by
  refine (?f : ∀ b : List Stmt, (fnAt PySem.Challenge.pw_ux0026_02 22).2.1 = b → List Stmt) ?b ?h
  case h => conv => lhs; whnf
  case f => exact fun b _ => b
noncomputable def f22s : Scope := Scope.mk (ScopeKind.function) ((((Str.ofString ("script"), NameKind.local)) :: ((Str.ofString ("cells"), NameKind.cell)) :: ((Str.ofString ("numbers"), NameKind.cell)) :: ((Str.ofString ("place"), NameKind.local)) :: ((Str.ofString ("marks"), NameKind.cell)) :: ((Str.ofString ("letter"), NameKind.local)) :: ((Str.ofString ("tail"), NameKind.local)) :: ((Str.ofString ("choices"), NameKind.local)) :: ((Str.ofString ("table"), NameKind.local)) :: ((Str.ofString ("answers"), NameKind.local)) :: ((Str.ofString ("evens"), NameKind.cell)) :: ((Str.ofString ("odds"), NameKind.cell)) :: ((Str.ofString ("points"), NameKind.local)) :: ((Str.ofString ("levels"), NameKind.local)) :: ((Str.ofString ("level"), NameKind.local)) :: ((Str.ofString ("odd"), NameKind.local)) :: ((Str.ofString ("due"), NameKind.local)) :: ((Str.ofString ("power"), NameKind.local)) :: ((Str.ofString ("moved"), NameKind.local)) :: ((Str.ofString ("sides"), NameKind.local)) :: ((Str.ofString ("marked"), NameKind.local)) :: ((Str.ofString ("_law_cells"), NameKind.globalImplicit)) :: ((Str.ofString ("range"), NameKind.globalImplicit)) :: ((Str.ofString ("chr"), NameKind.globalImplicit)) :: ((Str.ofString ("_law_choices"), NameKind.globalImplicit)) :: ((Str.ofString ("_law_table"), NameKind.globalImplicit)) :: ((Str.ofString ("_law_names"), NameKind.globalImplicit)) :: ((Str.ofString ("Headers"), NameKind.globalImplicit)) :: ((Str.ofString ("_law_row"), NameKind.globalImplicit)) :: ((Str.ofString ("sorted"), NameKind.globalImplicit)) :: ((Str.ofString ("_law_refused"), NameKind.globalImplicit)) :: ((Str.ofString ("str"), NameKind.globalImplicit)) :: ((Str.ofString ("parse257"), NameKind.globalImplicit)) :: ((Str.ofString ("len"), NameKind.globalImplicit)) :: ((Str.ofString ("min"), NameKind.globalImplicit)) :: [])) (Bool.false) (Bool.false) ((((Str.ofString ("fast"), Const.str (Str.ofString ("script")))) :: ((Str.ofString ("fast"), Const.str (Str.ofString ("cells")))) :: ((Str.ofString ("fast"), Const.str (Str.ofString ("cell")))) :: ((Str.ofString ("fast"), Const.str (Str.ofString ("numbers")))) :: ((Str.ofString ("fast"), Const.str (Str.ofString ("place")))) :: ((Str.ofString ("fast"), Const.str (Str.ofString ("marks")))) :: ((Str.ofString ("fast"), Const.str (Str.ofString ("letter")))) :: ((Str.ofString ("fast"), Const.str (Str.ofString ("tail")))) :: ((Str.ofString ("fast"), Const.str (Str.ofString ("choices")))) :: ((Str.ofString ("fast"), Const.str (Str.ofString ("table")))) :: ((Str.ofString ("fast"), Const.str (Str.ofString ("answers")))) :: ((Str.ofString ("fast"), Const.str (Str.ofString ("evens")))) :: ((Str.ofString ("fast"), Const.str (Str.ofString ("odds")))) :: ((Str.ofString ("fast"), Const.str (Str.ofString ("points")))) :: ((Str.ofString ("fast"), Const.str (Str.ofString ("point")))) :: ((Str.ofString ("fast"), Const.str (Str.ofString ("levels")))) :: ((Str.ofString ("fast"), Const.str (Str.ofString ("level")))) :: ((Str.ofString ("fast"), Const.str (Str.ofString ("odd")))) :: ((Str.ofString ("fast"), Const.str (Str.ofString ("due")))) :: ((Str.ofString ("fast"), Const.str (Str.ofString ("power")))) :: ((Str.ofString ("fast"), Const.str (Str.ofString ("moved")))) :: ((Str.ofString ("fast"), Const.str (Str.ofString ("sides")))) :: ((Str.ofString ("fast"), Const.str (Str.ofString ("marked")))) :: []))
noncomputable def f5p : Arguments := by
  refine (?f : ∀ b : Arguments, (fnAt PySem.Challenge.pw_ux0026_02 5).1 = b → Arguments) ?b ?h
  case h => conv => lhs; whnf
  case f => exact fun b _ => b
noncomputable def f5b : List Stmt := by
  refine (?f : ∀ b : List Stmt, (fnAt PySem.Challenge.pw_ux0026_02 5).2.1 = b → List Stmt) ?b ?h
  case h => conv => lhs; whnf
  case f => exact fun b _ => b
noncomputable def f5s : Scope := by
  refine (?f : ∀ b : Scope, (fnAt PySem.Challenge.pw_ux0026_02 5).2.2 = b → Scope) ?b ?h
  case h => conv => lhs; whnf
  case f => exact fun b _ => b
noncomputable def f7p : Arguments := by
  refine (?f : ∀ b : Arguments, (fnAt PySem.Challenge.pw_ux0026_02 7).1 = b → Arguments) ?b ?h
  case h => conv => lhs; whnf
  case f => exact fun b _ => b
noncomputable def f7b : List Stmt := by
  refine (?f : ∀ b : List Stmt, (fnAt PySem.Challenge.pw_ux0026_02 7).2.1 = b → List Stmt) ?b ?h
  case h => conv => lhs; whnf
  case f => exact fun b _ => b
noncomputable def f7s : Scope := by
  refine (?f : ∀ b : Scope, (fnAt PySem.Challenge.pw_ux0026_02 7).2.2 = b → Scope) ?b ?h
  case h => conv => lhs; whnf
  case f => exact fun b _ => b
noncomputable def f8p : Arguments := by
  refine (?f : ∀ b : Arguments, (fnAt PySem.Challenge.pw_ux0026_02 8).1 = b → Arguments) ?b ?h
  case h => conv => lhs; whnf
  case f => exact fun b _ => b
noncomputable def f8b : List Stmt := by
  refine (?f : ∀ b : List Stmt, (fnAt PySem.Challenge.pw_ux0026_02 8).2.1 = b → List Stmt) ?b ?h
  case h => conv => lhs; whnf
  case f => exact fun b _ => b
noncomputable def f8s : Scope := by
  refine (?f : ∀ b : Scope, (fnAt PySem.Challenge.pw_ux0026_02 8).2.2 = b → Scope) ?b ?h
  case h => conv => lhs; whnf
  case f => exact fun b _ => b
noncomputable def m14x0p : Arguments := by
  refine (?f : ∀ b : Arguments, (meAt PySem.Challenge.pw_ux0026_02 14 0).1 = b → Arguments) ?b ?h
  case h => conv => lhs; whnf
  case f => exact fun b _ => b
noncomputable def m14x0b : List Stmt := by
  refine (?f : ∀ b : List Stmt, (meAt PySem.Challenge.pw_ux0026_02 14 0).2.1 = b → List Stmt) ?b ?h
  case h => conv => lhs; whnf
  case f => exact fun b _ => b
noncomputable def m14x0s : Scope := by
  refine (?f : ∀ b : Scope, (meAt PySem.Challenge.pw_ux0026_02 14 0).2.2 = b → Scope) ?b ?h
  case h => conv => lhs; whnf
  case f => exact fun b _ => b
noncomputable def m14x1p : Arguments := by
  refine (?f : ∀ b : Arguments, (meAt PySem.Challenge.pw_ux0026_02 14 1).1 = b → Arguments) ?b ?h
  case h => conv => lhs; whnf
  case f => exact fun b _ => b
noncomputable def m14x1b : List Stmt := by
  refine (?f : ∀ b : List Stmt, (meAt PySem.Challenge.pw_ux0026_02 14 1).2.1 = b → List Stmt) ?b ?h
  case h => conv => lhs; whnf
  case f => exact fun b _ => b
noncomputable def m14x1s : Scope := by
  refine (?f : ∀ b : Scope, (meAt PySem.Challenge.pw_ux0026_02 14 1).2.2 = b → Scope) ?b ?h
  case h => conv => lhs; whnf
  case f => exact fun b _ => b
noncomputable def m14x10p : Arguments := by
  refine (?f : ∀ b : Arguments, (meAt PySem.Challenge.pw_ux0026_02 14 10).1 = b → Arguments) ?b ?h
  case h => conv => lhs; whnf
  case f => exact fun b _ => b
noncomputable def m14x10b : List Stmt := by
  refine (?f : ∀ b : List Stmt, (meAt PySem.Challenge.pw_ux0026_02 14 10).2.1 = b → List Stmt) ?b ?h
  case h => conv => lhs; whnf
  case f => exact fun b _ => b
noncomputable def m14x10s : Scope := by
  refine (?f : ∀ b : Scope, (meAt PySem.Challenge.pw_ux0026_02 14 10).2.2 = b → Scope) ?b ?h
  case h => conv => lhs; whnf
  case f => exact fun b _ => b
noncomputable def m14x11p : Arguments := by
  refine (?f : ∀ b : Arguments, (meAt PySem.Challenge.pw_ux0026_02 14 11).1 = b → Arguments) ?b ?h
  case h => conv => lhs; whnf
  case f => exact fun b _ => b
noncomputable def m14x11b : List Stmt := by
  refine (?f : ∀ b : List Stmt, (meAt PySem.Challenge.pw_ux0026_02 14 11).2.1 = b → List Stmt) ?b ?h
  case h => conv => lhs; whnf
  case f => exact fun b _ => b
noncomputable def m14x11s : Scope := by
  refine (?f : ∀ b : Scope, (meAt PySem.Challenge.pw_ux0026_02 14 11).2.2 = b → Scope) ?b ?h
  case h => conv => lhs; whnf
  case f => exact fun b _ => b
noncomputable def m14x12p : Arguments := by
  refine (?f : ∀ b : Arguments, (meAt PySem.Challenge.pw_ux0026_02 14 12).1 = b → Arguments) ?b ?h
  case h => conv => lhs; whnf
  case f => exact fun b _ => b
noncomputable def m14x12b : List Stmt := by
  refine (?f : ∀ b : List Stmt, (meAt PySem.Challenge.pw_ux0026_02 14 12).2.1 = b → List Stmt) ?b ?h
  case h => conv => lhs; whnf
  case f => exact fun b _ => b
noncomputable def m14x12s : Scope := by
  refine (?f : ∀ b : Scope, (meAt PySem.Challenge.pw_ux0026_02 14 12).2.2 = b → Scope) ?b ?h
  case h => conv => lhs; whnf
  case f => exact fun b _ => b
noncomputable def m14x13p : Arguments := by
  refine (?f : ∀ b : Arguments, (meAt PySem.Challenge.pw_ux0026_02 14 13).1 = b → Arguments) ?b ?h
  case h => conv => lhs; whnf
  case f => exact fun b _ => b
noncomputable def m14x13b : List Stmt := by
  refine (?f : ∀ b : List Stmt, (meAt PySem.Challenge.pw_ux0026_02 14 13).2.1 = b → List Stmt) ?b ?h
  case h => conv => lhs; whnf
  case f => exact fun b _ => b
noncomputable def m14x13s : Scope := by
  refine (?f : ∀ b : Scope, (meAt PySem.Challenge.pw_ux0026_02 14 13).2.2 = b → Scope) ?b ?h
  case h => conv => lhs; whnf
  case f => exact fun b _ => b
noncomputable def m14x14p : Arguments := by
  refine (?f : ∀ b : Arguments, (meAt PySem.Challenge.pw_ux0026_02 14 14).1 = b → Arguments) ?b ?h
  case h => conv => lhs; whnf
  case f => exact fun b _ => b
noncomputable def m14x14b : List Stmt := by
  refine (?f : ∀ b : List Stmt, (meAt PySem.Challenge.pw_ux0026_02 14 14).2.1 = b → List Stmt) ?b ?h
  case h => conv => lhs; whnf
  case f => exact fun b _ => b
noncomputable def m14x14s : Scope := by
  refine (?f : ∀ b : Scope, (meAt PySem.Challenge.pw_ux0026_02 14 14).2.2 = b → Scope) ?b ?h
  case h => conv => lhs; whnf
  case f => exact fun b _ => b
noncomputable def m14x15p : Arguments := by
  refine (?f : ∀ b : Arguments, (meAt PySem.Challenge.pw_ux0026_02 14 15).1 = b → Arguments) ?b ?h
  case h => conv => lhs; whnf
  case f => exact fun b _ => b
noncomputable def m14x15b : List Stmt := by
  refine (?f : ∀ b : List Stmt, (meAt PySem.Challenge.pw_ux0026_02 14 15).2.1 = b → List Stmt) ?b ?h
  case h => conv => lhs; whnf
  case f => exact fun b _ => b
noncomputable def m14x15s : Scope := by
  refine (?f : ∀ b : Scope, (meAt PySem.Challenge.pw_ux0026_02 14 15).2.2 = b → Scope) ?b ?h
  case h => conv => lhs; whnf
  case f => exact fun b _ => b
noncomputable def m14x16p : Arguments := by
  refine (?f : ∀ b : Arguments, (meAt PySem.Challenge.pw_ux0026_02 14 16).1 = b → Arguments) ?b ?h
  case h => conv => lhs; whnf
  case f => exact fun b _ => b
noncomputable def m14x16b : List Stmt := by
  refine (?f : ∀ b : List Stmt, (meAt PySem.Challenge.pw_ux0026_02 14 16).2.1 = b → List Stmt) ?b ?h
  case h => conv => lhs; whnf
  case f => exact fun b _ => b
noncomputable def m14x16s : Scope := by
  refine (?f : ∀ b : Scope, (meAt PySem.Challenge.pw_ux0026_02 14 16).2.2 = b → Scope) ?b ?h
  case h => conv => lhs; whnf
  case f => exact fun b _ => b
noncomputable def m14x2p : Arguments := by
  refine (?f : ∀ b : Arguments, (meAt PySem.Challenge.pw_ux0026_02 14 2).1 = b → Arguments) ?b ?h
  case h => conv => lhs; whnf
  case f => exact fun b _ => b
noncomputable def m14x2b : List Stmt := by
  refine (?f : ∀ b : List Stmt, (meAt PySem.Challenge.pw_ux0026_02 14 2).2.1 = b → List Stmt) ?b ?h
  case h => conv => lhs; whnf
  case f => exact fun b _ => b
noncomputable def m14x2s : Scope := by
  refine (?f : ∀ b : Scope, (meAt PySem.Challenge.pw_ux0026_02 14 2).2.2 = b → Scope) ?b ?h
  case h => conv => lhs; whnf
  case f => exact fun b _ => b
noncomputable def m14x3p : Arguments := by
  refine (?f : ∀ b : Arguments, (meAt PySem.Challenge.pw_ux0026_02 14 3).1 = b → Arguments) ?b ?h
  case h => conv => lhs; whnf
  case f => exact fun b _ => b
noncomputable def m14x3b : List Stmt := by
  refine (?f : ∀ b : List Stmt, (meAt PySem.Challenge.pw_ux0026_02 14 3).2.1 = b → List Stmt) ?b ?h
  case h => conv => lhs; whnf
  case f => exact fun b _ => b
noncomputable def m14x3s : Scope := by
  refine (?f : ∀ b : Scope, (meAt PySem.Challenge.pw_ux0026_02 14 3).2.2 = b → Scope) ?b ?h
  case h => conv => lhs; whnf
  case f => exact fun b _ => b
noncomputable def m14x4p : Arguments := by
  refine (?f : ∀ b : Arguments, (meAt PySem.Challenge.pw_ux0026_02 14 4).1 = b → Arguments) ?b ?h
  case h => conv => lhs; whnf
  case f => exact fun b _ => b
noncomputable def m14x4b : List Stmt := by
  refine (?f : ∀ b : List Stmt, (meAt PySem.Challenge.pw_ux0026_02 14 4).2.1 = b → List Stmt) ?b ?h
  case h => conv => lhs; whnf
  case f => exact fun b _ => b
noncomputable def m14x4s : Scope := by
  refine (?f : ∀ b : Scope, (meAt PySem.Challenge.pw_ux0026_02 14 4).2.2 = b → Scope) ?b ?h
  case h => conv => lhs; whnf
  case f => exact fun b _ => b
noncomputable def m14x5p : Arguments := by
  refine (?f : ∀ b : Arguments, (meAt PySem.Challenge.pw_ux0026_02 14 5).1 = b → Arguments) ?b ?h
  case h => conv => lhs; whnf
  case f => exact fun b _ => b
noncomputable def m14x5b : List Stmt := by
  refine (?f : ∀ b : List Stmt, (meAt PySem.Challenge.pw_ux0026_02 14 5).2.1 = b → List Stmt) ?b ?h
  case h => conv => lhs; whnf
  case f => exact fun b _ => b
noncomputable def m14x5s : Scope := by
  refine (?f : ∀ b : Scope, (meAt PySem.Challenge.pw_ux0026_02 14 5).2.2 = b → Scope) ?b ?h
  case h => conv => lhs; whnf
  case f => exact fun b _ => b
noncomputable def m14x6p : Arguments := by
  refine (?f : ∀ b : Arguments, (meAt PySem.Challenge.pw_ux0026_02 14 6).1 = b → Arguments) ?b ?h
  case h => conv => lhs; whnf
  case f => exact fun b _ => b
noncomputable def m14x6b : List Stmt := by
  refine (?f : ∀ b : List Stmt, (meAt PySem.Challenge.pw_ux0026_02 14 6).2.1 = b → List Stmt) ?b ?h
  case h => conv => lhs; whnf
  case f => exact fun b _ => b
noncomputable def m14x6s : Scope := by
  refine (?f : ∀ b : Scope, (meAt PySem.Challenge.pw_ux0026_02 14 6).2.2 = b → Scope) ?b ?h
  case h => conv => lhs; whnf
  case f => exact fun b _ => b
noncomputable def m14x7p : Arguments := by
  refine (?f : ∀ b : Arguments, (meAt PySem.Challenge.pw_ux0026_02 14 7).1 = b → Arguments) ?b ?h
  case h => conv => lhs; whnf
  case f => exact fun b _ => b
noncomputable def m14x7b : List Stmt := by
  refine (?f : ∀ b : List Stmt, (meAt PySem.Challenge.pw_ux0026_02 14 7).2.1 = b → List Stmt) ?b ?h
  case h => conv => lhs; whnf
  case f => exact fun b _ => b
noncomputable def m14x7s : Scope := by
  refine (?f : ∀ b : Scope, (meAt PySem.Challenge.pw_ux0026_02 14 7).2.2 = b → Scope) ?b ?h
  case h => conv => lhs; whnf
  case f => exact fun b _ => b
noncomputable def m14x8p : Arguments := by
  refine (?f : ∀ b : Arguments, (meAt PySem.Challenge.pw_ux0026_02 14 8).1 = b → Arguments) ?b ?h
  case h => conv => lhs; whnf
  case f => exact fun b _ => b
noncomputable def m14x8b : List Stmt := by
  refine (?f : ∀ b : List Stmt, (meAt PySem.Challenge.pw_ux0026_02 14 8).2.1 = b → List Stmt) ?b ?h
  case h => conv => lhs; whnf
  case f => exact fun b _ => b
noncomputable def m14x8s : Scope := by
  refine (?f : ∀ b : Scope, (meAt PySem.Challenge.pw_ux0026_02 14 8).2.2 = b → Scope) ?b ?h
  case h => conv => lhs; whnf
  case f => exact fun b _ => b
noncomputable def m14x9p : Arguments := by
  refine (?f : ∀ b : Arguments, (meAt PySem.Challenge.pw_ux0026_02 14 9).1 = b → Arguments) ?b ?h
  case h => conv => lhs; whnf
  case f => exact fun b _ => b
noncomputable def m14x9b : List Stmt := by
  refine (?f : ∀ b : List Stmt, (meAt PySem.Challenge.pw_ux0026_02 14 9).2.1 = b → List Stmt) ?b ?h
  case h => conv => lhs; whnf
  case f => exact fun b _ => b
noncomputable def m14x9s : Scope := by
  refine (?f : ∀ b : Scope, (meAt PySem.Challenge.pw_ux0026_02 14 9).2.2 = b → Scope) ?b ?h
  case h => conv => lhs; whnf
  case f => exact fun b _ => b
noncomputable def heapK : Params → Frag := by
  refine (?f : ∀ K : Params → Frag, (fun P : Params => (((nat_lit 2), Obj.mk (Value.none) (@Option.none Nat) (Data.dict (#[kE P "\x69mport.loaded._sre" (183 : Nat) (Value.bool (Bool.true)), kE P "class._frozen_importlib.BuiltinImporter" (185 : Nat) (Value.ref ((14 : Nat))), kE P "watched.\x69mport" (206 : Nat) (Value.ref ((18 : Nat))), kE P "class._frozen_importlib.ModuleSpec" (216 : Nat) (Value.ref ((22 : Nat))), kE P "sys.modules.booked-epoch" (245 : Nat) (Value.int (3) ((0 : Nat))), kE P "\x69mport.later-laid._sre" (270 : Nat) (Value.bool (Bool.true)), kE P "watched.library" (272 : Nat) (Value.ref ((27 : Nat))), kE P "watched.library-objects" (0 : Nat) (Value.str (Str.ofString ("\x0c")) ((0 : Nat))), kE P "watched.library-deep._sre" (273 : Nat) (Value.str (Str.ofString ("\x04\x00\x00\x0b\x04\x00\x00\x0b\x04\x00\x00\x03\x04\x00\x00\x0b\x08\x04dict\x02")) ((0 : Nat))), kE P "type.__subclasses__.Exception.0" (307 : Nat) (Value.int (48) ((0 : Nat))), kE P "type.__subclasses__.Exception.n" (308 : Nat) (Value.int (1) ((0 : Nat)))]) ((11 : Nat))) (#[])) ::
    ((nat_lit 3), Obj.mk (Value.type ("dict")) (@Option.none Nat) (Data.dict ((List.toArray ((kE P "__name__" (165 : Nat) (Value.str (Str.ofString ("law_ux0026_02")) ((630 : Nat)))) :: (kE P "__doc__" (166 : Nat) (Value.none)) :: (kE P "__package__" (167 : Nat) (Value.none)) :: (kE P "__loader__" (168 : Nat) (Value.builtin ("__main__.__loader__#opaque"))) :: (kE P "__spec__" (169 : Nat) (Value.none)) :: (kE P "__annotations__" (170 : Nat) (Value.ref ((6 : Nat)))) :: (kE P "__builtins__" (171 : Nat) (Value.ref ((4 : Nat)))) :: (kE P "__file__" (173 : Nat) (Value.str (Str.ofString ("/claim/cut.py")) ((172 : Nat)))) :: (kE P "__cached__" (174 : Nat) (Value.none)) :: (kE P "_sre" (275 : Nat) (Value.ref ((12 : Nat)))) :: (kE P "_wall" (288 : Nat) (Value.ref ((38 : Nat)))) :: (kE P "Error" (310 : Nat) (Value.ref ((48 : Nat)))) :: (kE P "error_reply" (326 : Nat) (Value.ref ((61 : Nat)))) :: (kE P "parse257" (337 : Nat) (Value.ref ((70 : Nat)))) :: (kE P "insort_right" (352 : Nat) (Value.ref ((79 : Nat)))) :: (kE P "bisect_right" (366 : Nat) (Value.ref ((88 : Nat)))) :: (kE P "tspecials" (402 : Nat) (Value.ref ((93 : Nat)))) :: (kE P "_name_disallowed_re" (428 : Nat) (Value.ref ((98 : Nat)))) :: (kE P "_value_disallowed_re" (462 : Nat) (Value.ref ((103 : Nat)))) :: (kE P "_formatparam" (472 : Nat) (Value.ref ((111 : Nat)))) :: (kE P "Headers" (629 : Nat) (Value.ref ((232 : Nat)))) :: (kE P "_law_cells" (640 : Nat) (Value.ref ((243 : Nat)))) :: (kE P "_law_choices" (653 : Nat) (Value.ref ((250 : Nat)))) :: (kE P "_law_table" (669 : Nat) (Value.ref ((257 : Nat)))) :: (kE P "_law_names" (680 : Nat) (Value.ref ((264 : Nat)))) :: (kE P "_law_row" (686 : Nat) (Value.ref ((269 : Nat)))) :: (kE P "_law_refused" (693 : Nat) (Value.ref ((276 : Nat)))) :: (kE P "law" (699 : Nat) (Value.ref ((281 : Nat)))) :: []))) ((28 : Nat))) (#[])) ::
    ((nat_lit 32), Obj.mk (Value.type ("tuple")) (@Option.none Nat) (Data.seq (#[]) ((0 : Nat))) (#[])) ::
    ((nat_lit 34), Obj.mk (Value.type ("tuple")) (@Option.none Nat) (Data.seq (#[Value.str (Str.ofString ("k")) ((285 : Nat))]) ((0 : Nat))) (#[])) ::
    ((nat_lit 35), Obj.mk (Value.type ("tuple")) (@Option.none Nat) (Data.seq (#[]) ((0 : Nat))) (#[])) ::
    ((nat_lit 37), Obj.mk (Value.type ("code")) (@Option.none Nat) (Data.fields ((List.toArray ((Value.str (Str.ofString ("_wall")) ((282 : Nat))) :: (Value.str (Str.ofString ("_wall")) ((283 : Nat))) :: (Value.str (Str.ofString ("/claim/cut.py")) ((284 : Nat))) :: (Value.int (2) ((0 : Nat))) :: (Value.int (1) ((0 : Nat))) :: (Value.int (0) ((0 : Nat))) :: (Value.int (0) ((0 : Nat))) :: (Value.int (3) ((0 : Nat))) :: (Value.ref ((32 : Nat))) :: (Value.bool (Bool.true)) :: (Value.int (276) ((0 : Nat))) :: (Value.ref ((33 : Nat))) :: (Value.none) :: (Value.ref ((34 : Nat))) :: (Value.ref ((35 : Nat))) :: (Value.ref ((36 : Nat))) :: (Value.int (286) ((0 : Nat))) :: (Value.int (2) ((0 : Nat))) :: (Value.str (Str.ofString ("/claim/cut.py")) ((287 : Nat))) :: [])))) (#[])) ::
    ((nat_lit 38), Obj.mk (Value.type ("function")) (@Option.none Nat) (Data.func (FuncData.mk (Str.ofString ("_wall")) (Str.ofString ("_wall")) f1p (FuncBody.stmts f1b) f1s ((3 : Nat)) (@List.nil (Str × Nat)) (Value.none) (Value.none) (Value.none) (Value.str (Str.ofString ("__main__")) ((164 : Nat))) (@Option.none Nat) (Value.ref ((37 : Nat))) (Value.none) ((0 : Nat)))) (#[])) ::
    ((nat_lit 39), Obj.mk (Value.type ("tuple")) (@Option.none Nat) (Data.seq (#[Value.type ("Exception")]) ((0 : Nat))) (#[])) ::
    ((nat_lit 46), Obj.mk (Value.type ("tuple")) (@Option.none Nat) (Data.seq (#[]) ((0 : Nat))) (#[])) ::
    ((nat_lit 47), Obj.mk (Value.type ("dict")) (@Option.none Nat) (Data.dict (#[kE P "__module__" (298 : Nat) (Value.str (Str.ofString ("cpy313.ftplib")) ((289 : Nat))), kE P "__firstlineno__" (302 : Nat) (Value.int (6) ((301 : Nat))), kE P "__static_attributes__" (303 : Nat) (Value.ref ((46 : Nat))), kE P "__weakref__" (305 : Nat) (Value.ref ((49 : Nat))), kE P "__doc__" (306 : Nat) (Value.none)]) ((3 : Nat))) (#[])) ::
    ((nat_lit 48), Obj.mk (Value.type ("type")) (@Option.none Nat) (Data.cls (ClassData.mk (Str.ofString ("Error")) ([Value.type ("Exception")]) ([Value.ref ((48 : Nat)), Value.type ("Exception"), Value.type ("BaseException"), Value.type ("object")]) ((47 : Nat)) (Str.ofString ("Error")) (Bool.true) ([]) ([Value.ref ((61 : Nat))]) (Bool.false) (Option.none) (Bool.false))) (#[Option.some (Value.ref ((39 : Nat))), Option.none, Option.some (Value.str (Str.ofString ("Error")) ((291 : Nat))), Option.some (Value.str (Str.ofString ("Error")) ((299 : Nat))), Option.some (Value.builtin ("Exception.__new__")), Option.some (Value.bool (Bool.true))])) ::
    ((nat_lit 49), Obj.mk (Value.type ("getset_descriptor")) (@Option.none Nat) (Data.fields (#[Value.str (Str.ofString ("__weakref__")) ((304 : Nat)), Value.ref ((48 : Nat)), Value.builtin ("ExceptionGroup.__weakref__"), Value.none])) (#[])) ::
    ((nat_lit 52), Obj.mk (Value.type ("tuple")) (@Option.none Nat) (Data.seq (#[Value.ref ((48 : Nat))]) ((0 : Nat))) (#[])) ::
    ((nat_lit 59), Obj.mk (Value.type ("tuple")) (@Option.none Nat) (Data.seq (#[]) ((0 : Nat))) (#[])) ::
    ((nat_lit 60), Obj.mk (Value.type ("dict")) (@Option.none Nat) (Data.dict (#[kE P "__module__" (318 : Nat) (Value.str (Str.ofString ("cpy313.ftplib")) ((289 : Nat))), kE P "__firstlineno__" (322 : Nat) (Value.int (8) ((321 : Nat))), kE P "__static_attributes__" (323 : Nat) (Value.ref ((59 : Nat))), kE P "__doc__" (324 : Nat) (Value.none)]) ((2 : Nat))) (#[])) ::
    ((nat_lit 61), Obj.mk (Value.type ("type")) (@Option.none Nat) (Data.cls (ClassData.mk (Str.ofString ("error_reply")) ([Value.ref ((48 : Nat))]) ([Value.ref ((61 : Nat)), Value.ref ((48 : Nat)), Value.type ("Exception"), Value.type ("BaseException"), Value.type ("object")]) ((60 : Nat)) (Str.ofString ("error_reply")) (Bool.true) ([]) ([]) (Bool.false) (Option.none) (Bool.false))) (#[Option.some (Value.ref ((52 : Nat))), Option.none, Option.some (Value.str (Str.ofString ("error_reply")) ((311 : Nat))), Option.some (Value.str (Str.ofString ("error_reply")) ((319 : Nat))), Option.some (Value.builtin ("Exception.__new__")), Option.some (Value.bool (Bool.true))])) ::
    ((nat_lit 64), Obj.mk (Value.type ("tuple")) (@Option.none Nat) (Data.seq (#[]) ((0 : Nat))) (#[])) ::
    ((nat_lit 66), Obj.mk (Value.type ("tuple")) (@Option.none Nat) (Data.seq (#[Value.str (Str.ofString ("resp")) ((330 : Nat)), Value.str (Str.ofString ("dirname")) ((331 : Nat)), Value.str (Str.ofString ("i")) ((332 : Nat)), Value.str (Str.ofString ("n")) ((333 : Nat)), Value.str (Str.ofString ("c")) ((334 : Nat))]) ((0 : Nat))) (#[])) ::
    ((nat_lit 67), Obj.mk (Value.type ("tuple")) (@Option.none Nat) (Data.seq (#[]) ((0 : Nat))) (#[])) ::
    ((nat_lit 69), Obj.mk (Value.type ("code")) (@Option.none Nat) (Data.fields ((List.toArray ((Value.str (Str.ofString ("parse257")) ((327 : Nat))) :: (Value.str (Str.ofString ("parse257")) ((328 : Nat))) :: (Value.str (Str.ofString ("/claim/cut.py")) ((329 : Nat))) :: (Value.int (10) ((0 : Nat))) :: (Value.int (1) ((0 : Nat))) :: (Value.int (0) ((0 : Nat))) :: (Value.int (0) ((0 : Nat))) :: (Value.int (3) ((0 : Nat))) :: (Value.ref ((64 : Nat))) :: (Value.bool (Bool.true)) :: (Value.int (276) ((0 : Nat))) :: (Value.ref ((65 : Nat))) :: (Value.none) :: (Value.ref ((66 : Nat))) :: (Value.ref ((67 : Nat))) :: (Value.ref ((68 : Nat))) :: (Value.int (335) ((0 : Nat))) :: (Value.int (10) ((0 : Nat))) :: (Value.str (Str.ofString ("/claim/cut.py")) ((336 : Nat))) :: [])))) (#[])) ::
    ((nat_lit 70), Obj.mk (Value.type ("function")) (@Option.none Nat) (Data.func (FuncData.mk (Str.ofString ("parse257")) (Str.ofString ("parse257")) f5p (FuncBody.stmts f5b) f5s ((3 : Nat)) (@List.nil (Str × Nat)) (Value.none) (Value.none) (Value.none) (Value.str (Str.ofString ("cpy313.ftplib")) ((289 : Nat))) (@Option.none Nat) (Value.ref ((69 : Nat))) (Value.none) ((0 : Nat)))) (#[])) ::
    ((nat_lit 71), Obj.mk (Value.type ("tuple")) (@Option.none Nat) (Data.seq (#[Value.int (0) ((340 : Nat)), Value.none]) ((0 : Nat))) (#[])) ::
    ((nat_lit 72), Obj.mk (Value.type ("dict")) (@Option.none Nat) (Data.dict (#[kE P "key" (341 : Nat) (Value.none)]) ((1 : Nat))) (#[])) ::
    ((nat_lit 73), Obj.mk (Value.type ("tuple")) (@Option.none Nat) (Data.seq (#[]) ((0 : Nat))) (#[])) ::
    ((nat_lit 75), Obj.mk (Value.type ("tuple")) (@Option.none Nat) (Data.seq (#[Value.str (Str.ofString ("a")) ((345 : Nat)), Value.str (Str.ofString ("x")) ((346 : Nat)), Value.str (Str.ofString ("lo")) ((347 : Nat)), Value.str (Str.ofString ("hi")) ((348 : Nat)), Value.str (Str.ofString ("key")) ((349 : Nat))]) ((0 : Nat))) (#[])) ::
    ((nat_lit 76), Obj.mk (Value.type ("tuple")) (@Option.none Nat) (Data.seq (#[]) ((0 : Nat))) (#[])) ::
    ((nat_lit 78), Obj.mk (Value.type ("code")) (@Option.none Nat) (Data.fields ((List.toArray ((Value.str (Str.ofString ("insort_right")) ((342 : Nat))) :: (Value.str (Str.ofString ("insort_right")) ((343 : Nat))) :: (Value.str (Str.ofString ("/claim/cut.py")) ((344 : Nat))) :: (Value.int (28) ((0 : Nat))) :: (Value.int (4) ((0 : Nat))) :: (Value.int (0) ((0 : Nat))) :: (Value.int (1) ((0 : Nat))) :: (Value.int (3) ((0 : Nat))) :: (Value.ref ((73 : Nat))) :: (Value.bool (Bool.true)) :: (Value.int (276) ((0 : Nat))) :: (Value.ref ((74 : Nat))) :: (Value.none) :: (Value.ref ((75 : Nat))) :: (Value.ref ((76 : Nat))) :: (Value.ref ((77 : Nat))) :: (Value.int (350) ((0 : Nat))) :: (Value.int (28) ((0 : Nat))) :: (Value.str (Str.ofString ("/claim/cut.py")) ((351 : Nat))) :: [])))) (#[])) ::
    ((nat_lit 79), Obj.mk (Value.type ("function")) (@Option.none Nat) (Data.func (FuncData.mk (Str.ofString ("insort_right")) (Str.ofString ("insort_right")) f7p (FuncBody.stmts f7b) f7s ((3 : Nat)) (@List.nil (Str × Nat)) (Value.ref ((71 : Nat))) (Value.ref ((72 : Nat))) (Value.none) (Value.str (Str.ofString ("cpy313.bisect")) ((338 : Nat))) (@Option.none Nat) (Value.ref ((78 : Nat))) (Value.none) ((0 : Nat)))) (#[])) ::
    ((nat_lit 80), Obj.mk (Value.type ("tuple")) (@Option.none Nat) (Data.seq (#[Value.int (0) ((353 : Nat)), Value.none]) ((0 : Nat))) (#[])) ::
    ((nat_lit 81), Obj.mk (Value.type ("dict")) (@Option.none Nat) (Data.dict (#[kE P "key" (354 : Nat) (Value.none)]) ((1 : Nat))) (#[])) ::
    ((nat_lit 82), Obj.mk (Value.type ("tuple")) (@Option.none Nat) (Data.seq (#[]) ((0 : Nat))) (#[])) ::
    ((nat_lit 84), Obj.mk (Value.type ("tuple")) (@Option.none Nat) (Data.seq (#[Value.str (Str.ofString ("a")) ((358 : Nat)), Value.str (Str.ofString ("x")) ((359 : Nat)), Value.str (Str.ofString ("lo")) ((360 : Nat)), Value.str (Str.ofString ("hi")) ((361 : Nat)), Value.str (Str.ofString ("key")) ((362 : Nat)), Value.str (Str.ofString ("mid")) ((363 : Nat))]) ((0 : Nat))) (#[])) ::
    ((nat_lit 85), Obj.mk (Value.type ("tuple")) (@Option.none Nat) (Data.seq (#[]) ((0 : Nat))) (#[])) ::
    ((nat_lit 87), Obj.mk (Value.type ("code")) (@Option.none Nat) (Data.fields ((List.toArray ((Value.str (Str.ofString ("bisect_right")) ((355 : Nat))) :: (Value.str (Str.ofString ("bisect_right")) ((356 : Nat))) :: (Value.str (Str.ofString ("/claim/cut.py")) ((357 : Nat))) :: (Value.int (34) ((0 : Nat))) :: (Value.int (4) ((0 : Nat))) :: (Value.int (0) ((0 : Nat))) :: (Value.int (1) ((0 : Nat))) :: (Value.int (3) ((0 : Nat))) :: (Value.ref ((82 : Nat))) :: (Value.bool (Bool.true)) :: (Value.int (276) ((0 : Nat))) :: (Value.ref ((83 : Nat))) :: (Value.none) :: (Value.ref ((84 : Nat))) :: (Value.ref ((85 : Nat))) :: (Value.ref ((86 : Nat))) :: (Value.int (364) ((0 : Nat))) :: (Value.int (34) ((0 : Nat))) :: (Value.str (Str.ofString ("/claim/cut.py")) ((365 : Nat))) :: [])))) (#[])) ::
    ((nat_lit 88), Obj.mk (Value.type ("function")) (@Option.none Nat) (Data.func (FuncData.mk (Str.ofString ("bisect_right")) (Str.ofString ("bisect_right")) f8p (FuncBody.stmts f8b) f8s ((3 : Nat)) (@List.nil (Str × Nat)) (Value.ref ((80 : Nat))) (Value.ref ((81 : Nat))) (Value.none) (Value.str (Str.ofString ("cpy313.bisect")) ((338 : Nat))) (@Option.none Nat) (Value.ref ((87 : Nat))) (Value.none) ((0 : Nat)))) (#[])) ::
    ((nat_lit 92), Obj.mk (Value.type ("tuple")) (@Option.none Nat) (Data.seq ((List.toArray ((Value.int (14) ((0 : Nat))) :: (Value.int (14) ((0 : Nat))) :: (Value.int (4) ((0 : Nat))) :: (Value.int (1) ((0 : Nat))) :: (Value.int (1) ((0 : Nat))) :: (Value.int (9) ((0 : Nat))) :: (Value.int (0) ((0 : Nat))) :: (Value.int (4227896069) ((0 : Nat))) :: (Value.int (939524097) ((0 : Nat))) :: (Value.int (0) ((0 : Nat))) :: (Value.int (0) ((0 : Nat))) :: (Value.int (0) ((0 : Nat))) :: (Value.int (0) ((0 : Nat))) :: (Value.int (0) ((0 : Nat))) :: (Value.int (0) ((0 : Nat))) :: (Value.int (13) ((0 : Nat))) :: (Value.int (11) ((0 : Nat))) :: (Value.int (9) ((0 : Nat))) :: (Value.int (0) ((0 : Nat))) :: (Value.int (4227896069) ((0 : Nat))) :: (Value.int (939524097) ((0 : Nat))) :: (Value.int (0) ((0 : Nat))) :: (Value.int (0) ((0 : Nat))) :: (Value.int (0) ((0 : Nat))) :: (Value.int (0) ((0 : Nat))) :: (Value.int (0) ((0 : Nat))) :: (Value.int (0) ((0 : Nat))) :: (Value.int (1) ((0 : Nat))) :: []))) ((0 : Nat))) (#[])) ::
    ((nat_lit 93), Obj.mk (Value.type ("re.Pattern")) (@Option.none Nat) (Data.fields (#[Value.str (Str.ofString ("[ \\(\\)<>@,;:\\\\\"/\\[\\]\\?=]")) ((370 : Nat)), Value.int (32) ((401 : Nat)), Value.int (0) ((0 : Nat)), Value.none, Value.none, Value.ref ((92 : Nat)), Value.int (0) ((0 : Nat))])) (#[])) ::
    ((nat_lit 97), Obj.mk (Value.type ("tuple")) (@Option.none Nat) (Data.seq ((List.toArray ((Value.int (14) ((0 : Nat))) :: (Value.int (10) ((0 : Nat))) :: (Value.int (4) ((0 : Nat))) :: (Value.int (1) ((0 : Nat))) :: (Value.int (1) ((0 : Nat))) :: (Value.int (22) ((0 : Nat))) :: (Value.int (0) ((0 : Nat))) :: (Value.int (31) ((0 : Nat))) :: (Value.int (16) ((0 : Nat))) :: (Value.int (127) ((0 : Nat))) :: (Value.int (0) ((0 : Nat))) :: (Value.int (13) ((0 : Nat))) :: (Value.int (7) ((0 : Nat))) :: (Value.int (22) ((0 : Nat))) :: (Value.int (0) ((0 : Nat))) :: (Value.int (31) ((0 : Nat))) :: (Value.int (16) ((0 : Nat))) :: (Value.int (127) ((0 : Nat))) :: (Value.int (0) ((0 : Nat))) :: (Value.int (1) ((0 : Nat))) :: []))) ((0 : Nat))) (#[])) ::
    ((nat_lit 98), Obj.mk (Value.type ("re.Pattern")) (@Option.none Nat) (Data.fields (#[Value.str (Str.ofString ("[\\x00-\\x1F\\x7F]")) ((404 : Nat)), Value.int (32) ((427 : Nat)), Value.int (0) ((0 : Nat)), Value.none, Value.none, Value.ref ((97 : Nat)), Value.int (0) ((0 : Nat))])) (#[])) ::
    ((nat_lit 102), Obj.mk (Value.type ("tuple")) (@Option.none Nat) (Data.seq ((List.toArray ((Value.int (14) ((0 : Nat))) :: (Value.int (14) ((0 : Nat))) :: (Value.int (4) ((0 : Nat))) :: (Value.int (1) ((0 : Nat))) :: (Value.int (1) ((0 : Nat))) :: (Value.int (9) ((0 : Nat))) :: (Value.int (4294966783) ((0 : Nat))) :: (Value.int (0) ((0 : Nat))) :: (Value.int (0) ((0 : Nat))) :: (Value.int (2147483648) ((0 : Nat))) :: (Value.int (0) ((0 : Nat))) :: (Value.int (0) ((0 : Nat))) :: (Value.int (0) ((0 : Nat))) :: (Value.int (0) ((0 : Nat))) :: (Value.int (0) ((0 : Nat))) :: (Value.int (13) ((0 : Nat))) :: (Value.int (11) ((0 : Nat))) :: (Value.int (9) ((0 : Nat))) :: (Value.int (4294966783) ((0 : Nat))) :: (Value.int (0) ((0 : Nat))) :: (Value.int (0) ((0 : Nat))) :: (Value.int (2147483648) ((0 : Nat))) :: (Value.int (0) ((0 : Nat))) :: (Value.int (0) ((0 : Nat))) :: (Value.int (0) ((0 : Nat))) :: (Value.int (0) ((0 : Nat))) :: (Value.int (0) ((0 : Nat))) :: (Value.int (1) ((0 : Nat))) :: []))) ((0 : Nat))) (#[])) ::
    ((nat_lit 103), Obj.mk (Value.type ("re.Pattern")) (@Option.none Nat) (Data.fields (#[Value.str (Str.ofString ("[\\x00-\\x08\\x0A-\\x1F\\x7F]")) ((430 : Nat)), Value.int (32) ((461 : Nat)), Value.int (0) ((0 : Nat)), Value.none, Value.none, Value.ref ((102 : Nat)), Value.int (0) ((0 : Nat))])) (#[])) ::
    ((nat_lit 104), Obj.mk (Value.type ("tuple")) (@Option.none Nat) (Data.seq (#[Value.none, Value.int (1) ((463 : Nat))]) ((0 : Nat))) (#[])) ::
    ((nat_lit 105), Obj.mk (Value.type ("tuple")) (@Option.none Nat) (Data.seq (#[]) ((0 : Nat))) (#[])) ::
    ((nat_lit 107), Obj.mk (Value.type ("tuple")) (@Option.none Nat) (Data.seq (#[Value.str (Str.ofString ("param")) ((467 : Nat)), Value.str (Str.ofString ("value")) ((468 : Nat)), Value.str (Str.ofString ("quote")) ((469 : Nat))]) ((0 : Nat))) (#[])) ::
    ((nat_lit 108), Obj.mk (Value.type ("tuple")) (@Option.none Nat) (Data.seq (#[]) ((0 : Nat))) (#[])) ::
    ((nat_lit 110), Obj.mk (Value.type ("code")) (@Option.none Nat) (Data.fields ((List.toArray ((Value.str (Str.ofString ("_formatparam")) ((464 : Nat))) :: (Value.str (Str.ofString ("_formatparam")) ((465 : Nat))) :: (Value.str (Str.ofString ("/claim/cut.py")) ((466 : Nat))) :: (Value.int (58) ((0 : Nat))) :: (Value.int (3) ((0 : Nat))) :: (Value.int (0) ((0 : Nat))) :: (Value.int (0) ((0 : Nat))) :: (Value.int (3) ((0 : Nat))) :: (Value.ref ((105 : Nat))) :: (Value.bool (Bool.true)) :: (Value.int (276) ((0 : Nat))) :: (Value.ref ((106 : Nat))) :: (Value.none) :: (Value.ref ((107 : Nat))) :: (Value.ref ((108 : Nat))) :: (Value.ref ((109 : Nat))) :: (Value.int (470) ((0 : Nat))) :: (Value.int (58) ((0 : Nat))) :: (Value.str (Str.ofString ("/claim/cut.py")) ((471 : Nat))) :: [])))) (#[])) ::
    ((nat_lit 111), Obj.mk (Value.type ("function")) (@Option.none Nat) (Data.func (FuncData.mk (Str.ofString ("_formatparam")) (Str.ofString ("_formatparam")) f13p (FuncBody.stmts f13b) f13s ((3 : Nat)) (@List.nil (Str × Nat)) (Value.ref ((104 : Nat))) (Value.none) (Value.none) (Value.str (Str.ofString ("cpy313.wsgiref.headers")) ((367 : Nat))) (@Option.none Nat) (Value.ref ((110 : Nat))) (Value.none) ((0 : Nat)))) (#[])) ::
    ((nat_lit 119), Obj.mk (Value.type ("tuple")) (@Option.none Nat) (Data.seq (#[Value.none]) ((0 : Nat))) (#[])) ::
    ((nat_lit 120), Obj.mk (Value.type ("tuple")) (@Option.none Nat) (Data.seq (#[]) ((0 : Nat))) (#[])) ::
    ((nat_lit 122), Obj.mk (Value.type ("tuple")) (@Option.none Nat) (Data.seq (#[Value.str (Str.ofString ("self")) ((488 : Nat)), Value.str (Str.ofString ("headers")) ((489 : Nat)), Value.str (Str.ofString ("k")) ((490 : Nat)), Value.str (Str.ofString ("v")) ((491 : Nat))]) ((0 : Nat))) (#[])) ::
    ((nat_lit 123), Obj.mk (Value.type ("tuple")) (@Option.none Nat) (Data.seq (#[]) ((0 : Nat))) (#[])) ::
    ((nat_lit 125), Obj.mk (Value.type ("code")) (@Option.none Nat) (Data.fields ((List.toArray ((Value.str (Str.ofString ("__init__")) ((485 : Nat))) :: (Value.str (Str.ofString ("Headers.__init__")) ((486 : Nat))) :: (Value.str (Str.ofString ("/claim/cut.py")) ((487 : Nat))) :: (Value.int (69) ((0 : Nat))) :: (Value.int (2) ((0 : Nat))) :: (Value.int (0) ((0 : Nat))) :: (Value.int (0) ((0 : Nat))) :: (Value.int (3) ((0 : Nat))) :: (Value.ref ((120 : Nat))) :: (Value.bool (Bool.true)) :: (Value.int (276) ((0 : Nat))) :: (Value.ref ((121 : Nat))) :: (Value.none) :: (Value.ref ((122 : Nat))) :: (Value.ref ((123 : Nat))) :: (Value.ref ((124 : Nat))) :: (Value.int (492) ((0 : Nat))) :: (Value.int (69) ((0 : Nat))) :: (Value.str (Str.ofString ("/claim/cut.py")) ((493 : Nat))) :: [])))) (#[])) ::
    ((nat_lit 126), Obj.mk (Value.type ("function")) (@Option.none Nat) (Data.func (FuncData.mk (Str.ofString ("__init__")) (Str.ofString ("Headers.__init__")) m14x0p (FuncBody.stmts m14x0b) m14x0s ((3 : Nat)) (@List.nil (Str × Nat)) (Value.ref ((119 : Nat))) (Value.none) (Value.none) (Value.str (Str.ofString ("cpy313.wsgiref.headers")) ((367 : Nat))) (@Option.none Nat) (Value.ref ((125 : Nat))) (Value.none) ((0 : Nat)))) (#[])) ::
    ((nat_lit 127), Obj.mk (Value.type ("tuple")) (@Option.none Nat) (Data.seq (#[]) ((0 : Nat))) (#[])) ::
    ((nat_lit 129), Obj.mk (Value.type ("tuple")) (@Option.none Nat) (Data.seq (#[Value.str (Str.ofString ("self")) ((498 : Nat)), Value.str (Str.ofString ("value")) ((499 : Nat)), Value.str (Str.ofString ("name")) ((500 : Nat)), Value.str (Str.ofString ("regex")) ((501 : Nat))]) ((0 : Nat))) (#[])) ::
    ((nat_lit 130), Obj.mk (Value.type ("tuple")) (@Option.none Nat) (Data.seq (#[]) ((0 : Nat))) (#[])) ::
    ((nat_lit 132), Obj.mk (Value.type ("code")) (@Option.none Nat) (Data.fields ((List.toArray ((Value.str (Str.ofString ("_convert_string_type")) ((495 : Nat))) :: (Value.str (Str.ofString ("Headers._convert_string_type")) ((496 : Nat))) :: (Value.str (Str.ofString ("/claim/cut.py")) ((497 : Nat))) :: (Value.int (79) ((0 : Nat))) :: (Value.int (2) ((0 : Nat))) :: (Value.int (0) ((0 : Nat))) :: (Value.int (1) ((0 : Nat))) :: (Value.int (3) ((0 : Nat))) :: (Value.ref ((127 : Nat))) :: (Value.bool (Bool.true)) :: (Value.int (276) ((0 : Nat))) :: (Value.ref ((128 : Nat))) :: (Value.none) :: (Value.ref ((129 : Nat))) :: (Value.ref ((130 : Nat))) :: (Value.ref ((131 : Nat))) :: (Value.int (502) ((0 : Nat))) :: (Value.int (79) ((0 : Nat))) :: (Value.str (Str.ofString ("/claim/cut.py")) ((503 : Nat))) :: [])))) (#[])) ::
    ((nat_lit 133), Obj.mk (Value.type ("function")) (@Option.none Nat) (Data.func (FuncData.mk (Str.ofString ("_convert_string_type")) (Str.ofString ("Headers._convert_string_type")) m14x1p (FuncBody.stmts m14x1b) m14x1s ((3 : Nat)) (@List.nil (Str × Nat)) (Value.none) (Value.none) (Value.none) (Value.str (Str.ofString ("cpy313.wsgiref.headers")) ((367 : Nat))) (@Option.none Nat) (Value.ref ((132 : Nat))) (Value.none) ((0 : Nat)))) (#[])) ::
    ((nat_lit 134), Obj.mk (Value.type ("tuple")) (@Option.none Nat) (Data.seq (#[]) ((0 : Nat))) (#[])) ::
    ((nat_lit 136), Obj.mk (Value.type ("tuple")) (@Option.none Nat) (Data.seq (#[Value.str (Str.ofString ("self")) ((508 : Nat))]) ((0 : Nat))) (#[])) ::
    ((nat_lit 137), Obj.mk (Value.type ("tuple")) (@Option.none Nat) (Data.seq (#[]) ((0 : Nat))) (#[])) ::
    ((nat_lit 139), Obj.mk (Value.type ("code")) (@Option.none Nat) (Data.fields ((List.toArray ((Value.str (Str.ofString ("__len__")) ((505 : Nat))) :: (Value.str (Str.ofString ("Headers.__len__")) ((506 : Nat))) :: (Value.str (Str.ofString ("/claim/cut.py")) ((507 : Nat))) :: (Value.int (87) ((0 : Nat))) :: (Value.int (1) ((0 : Nat))) :: (Value.int (0) ((0 : Nat))) :: (Value.int (0) ((0 : Nat))) :: (Value.int (3) ((0 : Nat))) :: (Value.ref ((134 : Nat))) :: (Value.bool (Bool.true)) :: (Value.int (276) ((0 : Nat))) :: (Value.ref ((135 : Nat))) :: (Value.none) :: (Value.ref ((136 : Nat))) :: (Value.ref ((137 : Nat))) :: (Value.ref ((138 : Nat))) :: (Value.int (509) ((0 : Nat))) :: (Value.int (87) ((0 : Nat))) :: (Value.str (Str.ofString ("/claim/cut.py")) ((510 : Nat))) :: [])))) (#[])) ::
    ((nat_lit 140), Obj.mk (Value.type ("function")) (@Option.none Nat) (Data.func (FuncData.mk (Str.ofString ("__len__")) (Str.ofString ("Headers.__len__")) m14x2p (FuncBody.stmts m14x2b) m14x2s ((3 : Nat)) (@List.nil (Str × Nat)) (Value.none) (Value.none) (Value.none) (Value.str (Str.ofString ("cpy313.wsgiref.headers")) ((367 : Nat))) (@Option.none Nat) (Value.ref ((139 : Nat))) (Value.none) ((0 : Nat)))) (#[])) ::
    ((nat_lit 141), Obj.mk (Value.type ("tuple")) (@Option.none Nat) (Data.seq (#[]) ((0 : Nat))) (#[])) ::
    ((nat_lit 143), Obj.mk (Value.type ("tuple")) (@Option.none Nat) (Data.seq (#[Value.str (Str.ofString ("self")) ((515 : Nat)), Value.str (Str.ofString ("name")) ((516 : Nat)), Value.str (Str.ofString ("val")) ((517 : Nat))]) ((0 : Nat))) (#[])) ::
    ((nat_lit 144), Obj.mk (Value.type ("tuple")) (@Option.none Nat) (Data.seq (#[]) ((0 : Nat))) (#[])) ::
    ((nat_lit 146), Obj.mk (Value.type ("code")) (@Option.none Nat) (Data.fields ((List.toArray ((Value.str (Str.ofString ("__setitem__")) ((512 : Nat))) :: (Value.str (Str.ofString ("Headers.__setitem__")) ((513 : Nat))) :: (Value.str (Str.ofString ("/claim/cut.py")) ((514 : Nat))) :: (Value.int (90) ((0 : Nat))) :: (Value.int (3) ((0 : Nat))) :: (Value.int (0) ((0 : Nat))) :: (Value.int (0) ((0 : Nat))) :: (Value.int (3) ((0 : Nat))) :: (Value.ref ((141 : Nat))) :: (Value.bool (Bool.true)) :: (Value.int (276) ((0 : Nat))) :: (Value.ref ((142 : Nat))) :: (Value.none) :: (Value.ref ((143 : Nat))) :: (Value.ref ((144 : Nat))) :: (Value.ref ((145 : Nat))) :: (Value.int (518) ((0 : Nat))) :: (Value.int (90) ((0 : Nat))) :: (Value.str (Str.ofString ("/claim/cut.py")) ((519 : Nat))) :: [])))) (#[])) ::
    ((nat_lit 147), Obj.mk (Value.type ("function")) (@Option.none Nat) (Data.func (FuncData.mk (Str.ofString ("__setitem__")) (Str.ofString ("Headers.__setitem__")) m14x3p (FuncBody.stmts m14x3b) m14x3s ((3 : Nat)) (@List.nil (Str × Nat)) (Value.none) (Value.none) (Value.none) (Value.str (Str.ofString ("cpy313.wsgiref.headers")) ((367 : Nat))) (@Option.none Nat) (Value.ref ((146 : Nat))) (Value.none) ((0 : Nat)))) (#[])) ::
    ((nat_lit 148), Obj.mk (Value.type ("tuple")) (@Option.none Nat) (Data.seq (#[]) ((0 : Nat))) (#[])) ::
    ((nat_lit 151), Obj.mk (Value.type ("code")) (@Option.none Nat) (Data.fields ((List.toArray ((Value.str (Str.ofString ("__delitem__")) ((521 : Nat))) :: (Value.str (Str.ofString ("Headers.__delitem__")) ((522 : Nat))) :: (Value.str (Str.ofString ("/claim/cut.py")) ((523 : Nat))) :: (Value.int (94) ((0 : Nat))) :: (Value.int (2) ((0 : Nat))) :: (Value.int (0) ((0 : Nat))) :: (Value.int (0) ((0 : Nat))) :: (Value.int (3) ((0 : Nat))) :: (Value.ref ((148 : Nat))) :: (Value.bool (Bool.true)) :: (Value.int (276) ((0 : Nat))) :: (Value.ref ((149 : Nat))) :: (Value.none) :: (Value.none) :: (Value.none) :: (Value.ref ((150 : Nat))) :: (Value.int (524) ((0 : Nat))) :: (Value.int (94) ((0 : Nat))) :: (Value.str (Str.ofString ("/claim/cut.py")) ((525 : Nat))) :: [])))) (#[])) ::
    ((nat_lit 152), Obj.mk (Value.type ("function")) (@Option.none Nat) (Data.func (FuncData.mk (Str.ofString ("__delitem__")) (Str.ofString ("Headers.__delitem__")) m14x4p (FuncBody.stmts m14x4b) m14x4s ((3 : Nat)) (@List.nil (Str × Nat)) (Value.none) (Value.none) (Value.none) (Value.str (Str.ofString ("cpy313.wsgiref.headers")) ((367 : Nat))) (@Option.none Nat) (Value.ref ((151 : Nat))) (Value.none) ((0 : Nat)))) (#[])) ::
    ((nat_lit 153), Obj.mk (Value.type ("tuple")) (@Option.none Nat) (Data.seq (#[]) ((0 : Nat))) (#[])) ::
    ((nat_lit 155), Obj.mk (Value.type ("tuple")) (@Option.none Nat) (Data.seq (#[Value.str (Str.ofString ("self")) ((530 : Nat)), Value.str (Str.ofString ("name")) ((531 : Nat))]) ((0 : Nat))) (#[])) ::
    ((nat_lit 156), Obj.mk (Value.type ("tuple")) (@Option.none Nat) (Data.seq (#[]) ((0 : Nat))) (#[])) ::
    ((nat_lit 158), Obj.mk (Value.type ("code")) (@Option.none Nat) (Data.fields ((List.toArray ((Value.str (Str.ofString ("__getitem__")) ((527 : Nat))) :: (Value.str (Str.ofString ("Headers.__getitem__")) ((528 : Nat))) :: (Value.str (Str.ofString ("/claim/cut.py")) ((529 : Nat))) :: (Value.int (98) ((0 : Nat))) :: (Value.int (2) ((0 : Nat))) :: (Value.int (0) ((0 : Nat))) :: (Value.int (0) ((0 : Nat))) :: (Value.int (3) ((0 : Nat))) :: (Value.ref ((153 : Nat))) :: (Value.bool (Bool.true)) :: (Value.int (276) ((0 : Nat))) :: (Value.ref ((154 : Nat))) :: (Value.none) :: (Value.ref ((155 : Nat))) :: (Value.ref ((156 : Nat))) :: (Value.ref ((157 : Nat))) :: (Value.int (532) ((0 : Nat))) :: (Value.int (98) ((0 : Nat))) :: (Value.str (Str.ofString ("/claim/cut.py")) ((533 : Nat))) :: [])))) (#[])) ::
    ((nat_lit 159), Obj.mk (Value.type ("function")) (@Option.none Nat) (Data.func (FuncData.mk (Str.ofString ("__getitem__")) (Str.ofString ("Headers.__getitem__")) m14x5p (FuncBody.stmts m14x5b) m14x5s ((3 : Nat)) (@List.nil (Str × Nat)) (Value.none) (Value.none) (Value.none) (Value.str (Str.ofString ("cpy313.wsgiref.headers")) ((367 : Nat))) (@Option.none Nat) (Value.ref ((158 : Nat))) (Value.none) ((0 : Nat)))) (#[])) ::
    ((nat_lit 160), Obj.mk (Value.type ("tuple")) (@Option.none Nat) (Data.seq (#[]) ((0 : Nat))) (#[])) ::
    ((nat_lit 162), Obj.mk (Value.type ("tuple")) (@Option.none Nat) (Data.seq (#[Value.str (Str.ofString ("self")) ((538 : Nat)), Value.str (Str.ofString ("name")) ((539 : Nat))]) ((0 : Nat))) (#[])) ::
    ((nat_lit 163), Obj.mk (Value.type ("tuple")) (@Option.none Nat) (Data.seq (#[]) ((0 : Nat))) (#[])) ::
    ((nat_lit 165), Obj.mk (Value.type ("code")) (@Option.none Nat) (Data.fields ((List.toArray ((Value.str (Str.ofString ("__contains__")) ((535 : Nat))) :: (Value.str (Str.ofString ("Headers.__contains__")) ((536 : Nat))) :: (Value.str (Str.ofString ("/claim/cut.py")) ((537 : Nat))) :: (Value.int (101) ((0 : Nat))) :: (Value.int (2) ((0 : Nat))) :: (Value.int (0) ((0 : Nat))) :: (Value.int (0) ((0 : Nat))) :: (Value.int (3) ((0 : Nat))) :: (Value.ref ((160 : Nat))) :: (Value.bool (Bool.true)) :: (Value.int (276) ((0 : Nat))) :: (Value.ref ((161 : Nat))) :: (Value.none) :: (Value.ref ((162 : Nat))) :: (Value.ref ((163 : Nat))) :: (Value.ref ((164 : Nat))) :: (Value.int (540) ((0 : Nat))) :: (Value.int (101) ((0 : Nat))) :: (Value.str (Str.ofString ("/claim/cut.py")) ((541 : Nat))) :: [])))) (#[])) ::
    ((nat_lit 166), Obj.mk (Value.type ("function")) (@Option.none Nat) (Data.func (FuncData.mk (Str.ofString ("__contains__")) (Str.ofString ("Headers.__contains__")) m14x6p (FuncBody.stmts m14x6b) m14x6s ((3 : Nat)) (@List.nil (Str × Nat)) (Value.none) (Value.none) (Value.none) (Value.str (Str.ofString ("cpy313.wsgiref.headers")) ((367 : Nat))) (@Option.none Nat) (Value.ref ((165 : Nat))) (Value.none) ((0 : Nat)))) (#[])) ::
    ((nat_lit 167), Obj.mk (Value.type ("tuple")) (@Option.none Nat) (Data.seq (#[]) ((0 : Nat))) (#[])) ::
    ((nat_lit 170), Obj.mk (Value.type ("code")) (@Option.none Nat) (Data.fields ((List.toArray ((Value.str (Str.ofString ("get_all")) ((543 : Nat))) :: (Value.str (Str.ofString ("Headers.get_all")) ((544 : Nat))) :: (Value.str (Str.ofString ("/claim/cut.py")) ((545 : Nat))) :: (Value.int (104) ((0 : Nat))) :: (Value.int (2) ((0 : Nat))) :: (Value.int (0) ((0 : Nat))) :: (Value.int (0) ((0 : Nat))) :: (Value.int (3) ((0 : Nat))) :: (Value.ref ((167 : Nat))) :: (Value.bool (Bool.true)) :: (Value.int (276) ((0 : Nat))) :: (Value.ref ((168 : Nat))) :: (Value.none) :: (Value.none) :: (Value.none) :: (Value.ref ((169 : Nat))) :: (Value.int (546) ((0 : Nat))) :: (Value.int (104) ((0 : Nat))) :: (Value.str (Str.ofString ("/claim/cut.py")) ((547 : Nat))) :: [])))) (#[])) ::
    ((nat_lit 171), Obj.mk (Value.type ("function")) (@Option.none Nat) (Data.func (FuncData.mk (Str.ofString ("get_all")) (Str.ofString ("Headers.get_all")) m14x7p (FuncBody.stmts m14x7b) m14x7s ((3 : Nat)) (@List.nil (Str × Nat)) (Value.none) (Value.none) (Value.none) (Value.str (Str.ofString ("cpy313.wsgiref.headers")) ((367 : Nat))) (@Option.none Nat) (Value.ref ((170 : Nat))) (Value.none) ((0 : Nat)))) (#[])) ::
    ((nat_lit 172), Obj.mk (Value.type ("tuple")) (@Option.none Nat) (Data.seq (#[Value.none]) ((0 : Nat))) (#[])) ::
    ((nat_lit 173), Obj.mk (Value.type ("tuple")) (@Option.none Nat) (Data.seq (#[]) ((0 : Nat))) (#[])) ::
    ((nat_lit 175), Obj.mk (Value.type ("tuple")) (@Option.none Nat) (Data.seq (#[Value.str (Str.ofString ("self")) ((552 : Nat)), Value.str (Str.ofString ("name")) ((553 : Nat)), Value.str (Str.ofString ("default")) ((554 : Nat)), Value.str (Str.ofString ("k")) ((555 : Nat)), Value.str (Str.ofString ("v")) ((556 : Nat))]) ((0 : Nat))) (#[])) ::
    ((nat_lit 176), Obj.mk (Value.type ("tuple")) (@Option.none Nat) (Data.seq (#[]) ((0 : Nat))) (#[])) ::
    ((nat_lit 178), Obj.mk (Value.type ("code")) (@Option.none Nat) (Data.fields ((List.toArray ((Value.str (Str.ofString ("get")) ((549 : Nat))) :: (Value.str (Str.ofString ("Headers.get")) ((550 : Nat))) :: (Value.str (Str.ofString ("/claim/cut.py")) ((551 : Nat))) :: (Value.int (108) ((0 : Nat))) :: (Value.int (3) ((0 : Nat))) :: (Value.int (0) ((0 : Nat))) :: (Value.int (0) ((0 : Nat))) :: (Value.int (3) ((0 : Nat))) :: (Value.ref ((173 : Nat))) :: (Value.bool (Bool.true)) :: (Value.int (276) ((0 : Nat))) :: (Value.ref ((174 : Nat))) :: (Value.none) :: (Value.ref ((175 : Nat))) :: (Value.ref ((176 : Nat))) :: (Value.ref ((177 : Nat))) :: (Value.int (557) ((0 : Nat))) :: (Value.int (108) ((0 : Nat))) :: (Value.str (Str.ofString ("/claim/cut.py")) ((558 : Nat))) :: [])))) (#[])) ::
    ((nat_lit 179), Obj.mk (Value.type ("function")) (@Option.none Nat) (Data.func (FuncData.mk (Str.ofString ("get")) (Str.ofString ("Headers.get")) m14x8p (FuncBody.stmts m14x8b) m14x8s ((3 : Nat)) (@List.nil (Str × Nat)) (Value.ref ((172 : Nat))) (Value.none) (Value.none) (Value.str (Str.ofString ("cpy313.wsgiref.headers")) ((367 : Nat))) (@Option.none Nat) (Value.ref ((178 : Nat))) (Value.none) ((0 : Nat)))) (#[])) ::
    ((nat_lit 180), Obj.mk (Value.type ("tuple")) (@Option.none Nat) (Data.seq (#[]) ((0 : Nat))) (#[])) ::
    ((nat_lit 183), Obj.mk (Value.type ("code")) (@Option.none Nat) (Data.fields ((List.toArray ((Value.str (Str.ofString ("keys")) ((560 : Nat))) :: (Value.str (Str.ofString ("Headers.keys")) ((561 : Nat))) :: (Value.str (Str.ofString ("/claim/cut.py")) ((562 : Nat))) :: (Value.int (115) ((0 : Nat))) :: (Value.int (1) ((0 : Nat))) :: (Value.int (0) ((0 : Nat))) :: (Value.int (0) ((0 : Nat))) :: (Value.int (3) ((0 : Nat))) :: (Value.ref ((180 : Nat))) :: (Value.bool (Bool.true)) :: (Value.int (276) ((0 : Nat))) :: (Value.ref ((181 : Nat))) :: (Value.none) :: (Value.none) :: (Value.none) :: (Value.ref ((182 : Nat))) :: (Value.int (563) ((0 : Nat))) :: (Value.int (115) ((0 : Nat))) :: (Value.str (Str.ofString ("/claim/cut.py")) ((564 : Nat))) :: [])))) (#[])) ::
    ((nat_lit 184), Obj.mk (Value.type ("function")) (@Option.none Nat) (Data.func (FuncData.mk (Str.ofString ("keys")) (Str.ofString ("Headers.keys")) m14x9p (FuncBody.stmts m14x9b) m14x9s ((3 : Nat)) (@List.nil (Str × Nat)) (Value.none) (Value.none) (Value.none) (Value.str (Str.ofString ("cpy313.wsgiref.headers")) ((367 : Nat))) (@Option.none Nat) (Value.ref ((183 : Nat))) (Value.none) ((0 : Nat)))) (#[])) ::
    ((nat_lit 185), Obj.mk (Value.type ("tuple")) (@Option.none Nat) (Data.seq (#[]) ((0 : Nat))) (#[])) ::
    ((nat_lit 188), Obj.mk (Value.type ("code")) (@Option.none Nat) (Data.fields ((List.toArray ((Value.str (Str.ofString ("values")) ((566 : Nat))) :: (Value.str (Str.ofString ("Headers.values")) ((567 : Nat))) :: (Value.str (Str.ofString ("/claim/cut.py")) ((568 : Nat))) :: (Value.int (118) ((0 : Nat))) :: (Value.int (1) ((0 : Nat))) :: (Value.int (0) ((0 : Nat))) :: (Value.int (0) ((0 : Nat))) :: (Value.int (3) ((0 : Nat))) :: (Value.ref ((185 : Nat))) :: (Value.bool (Bool.true)) :: (Value.int (276) ((0 : Nat))) :: (Value.ref ((186 : Nat))) :: (Value.none) :: (Value.none) :: (Value.none) :: (Value.ref ((187 : Nat))) :: (Value.int (569) ((0 : Nat))) :: (Value.int (118) ((0 : Nat))) :: (Value.str (Str.ofString ("/claim/cut.py")) ((570 : Nat))) :: [])))) (#[])) ::
    ((nat_lit 189), Obj.mk (Value.type ("function")) (@Option.none Nat) (Data.func (FuncData.mk (Str.ofString ("values")) (Str.ofString ("Headers.values")) m14x10p (FuncBody.stmts m14x10b) m14x10s ((3 : Nat)) (@List.nil (Str × Nat)) (Value.none) (Value.none) (Value.none) (Value.str (Str.ofString ("cpy313.wsgiref.headers")) ((367 : Nat))) (@Option.none Nat) (Value.ref ((188 : Nat))) (Value.none) ((0 : Nat)))) (#[])) ::
    ((nat_lit 190), Obj.mk (Value.type ("tuple")) (@Option.none Nat) (Data.seq (#[]) ((0 : Nat))) (#[])) ::
    ((nat_lit 192), Obj.mk (Value.type ("tuple")) (@Option.none Nat) (Data.seq (#[Value.str (Str.ofString ("self")) ((575 : Nat))]) ((0 : Nat))) (#[])) ::
    ((nat_lit 193), Obj.mk (Value.type ("tuple")) (@Option.none Nat) (Data.seq (#[]) ((0 : Nat))) (#[])) ::
    ((nat_lit 195), Obj.mk (Value.type ("code")) (@Option.none Nat) (Data.fields ((List.toArray ((Value.str (Str.ofString ("items")) ((572 : Nat))) :: (Value.str (Str.ofString ("Headers.items")) ((573 : Nat))) :: (Value.str (Str.ofString ("/claim/cut.py")) ((574 : Nat))) :: (Value.int (121) ((0 : Nat))) :: (Value.int (1) ((0 : Nat))) :: (Value.int (0) ((0 : Nat))) :: (Value.int (0) ((0 : Nat))) :: (Value.int (3) ((0 : Nat))) :: (Value.ref ((190 : Nat))) :: (Value.bool (Bool.true)) :: (Value.int (276) ((0 : Nat))) :: (Value.ref ((191 : Nat))) :: (Value.none) :: (Value.ref ((192 : Nat))) :: (Value.ref ((193 : Nat))) :: (Value.ref ((194 : Nat))) :: (Value.int (576) ((0 : Nat))) :: (Value.int (121) ((0 : Nat))) :: (Value.str (Str.ofString ("/claim/cut.py")) ((577 : Nat))) :: [])))) (#[])) ::
    ((nat_lit 196), Obj.mk (Value.type ("function")) (@Option.none Nat) (Data.func (FuncData.mk (Str.ofString ("items")) (Str.ofString ("Headers.items")) m14x11p (FuncBody.stmts m14x11b) m14x11s ((3 : Nat)) (@List.nil (Str × Nat)) (Value.none) (Value.none) (Value.none) (Value.str (Str.ofString ("cpy313.wsgiref.headers")) ((367 : Nat))) (@Option.none Nat) (Value.ref ((195 : Nat))) (Value.none) ((0 : Nat)))) (#[])) ::
    ((nat_lit 197), Obj.mk (Value.type ("tuple")) (@Option.none Nat) (Data.seq (#[]) ((0 : Nat))) (#[])) ::
    ((nat_lit 199), Obj.mk (Value.type ("tuple")) (@Option.none Nat) (Data.seq (#[Value.str (Str.ofString ("self")) ((582 : Nat))]) ((0 : Nat))) (#[])) ::
    ((nat_lit 200), Obj.mk (Value.type ("tuple")) (@Option.none Nat) (Data.seq (#[]) ((0 : Nat))) (#[])) ::
    ((nat_lit 202), Obj.mk (Value.type ("code")) (@Option.none Nat) (Data.fields ((List.toArray ((Value.str (Str.ofString ("__repr__")) ((579 : Nat))) :: (Value.str (Str.ofString ("Headers.__repr__")) ((580 : Nat))) :: (Value.str (Str.ofString ("/claim/cut.py")) ((581 : Nat))) :: (Value.int (124) ((0 : Nat))) :: (Value.int (1) ((0 : Nat))) :: (Value.int (0) ((0 : Nat))) :: (Value.int (0) ((0 : Nat))) :: (Value.int (3) ((0 : Nat))) :: (Value.ref ((197 : Nat))) :: (Value.bool (Bool.true)) :: (Value.int (276) ((0 : Nat))) :: (Value.ref ((198 : Nat))) :: (Value.none) :: (Value.ref ((199 : Nat))) :: (Value.ref ((200 : Nat))) :: (Value.ref ((201 : Nat))) :: (Value.int (583) ((0 : Nat))) :: (Value.int (124) ((0 : Nat))) :: (Value.str (Str.ofString ("/claim/cut.py")) ((584 : Nat))) :: [])))) (#[])) ::
    ((nat_lit 203), Obj.mk (Value.type ("function")) (@Option.none Nat) (Data.func (FuncData.mk (Str.ofString ("__repr__")) (Str.ofString ("Headers.__repr__")) m14x12p (FuncBody.stmts m14x12b) m14x12s ((3 : Nat)) (@List.nil (Str × Nat)) (Value.none) (Value.none) (Value.none) (Value.str (Str.ofString ("cpy313.wsgiref.headers")) ((367 : Nat))) (@Option.none Nat) (Value.ref ((202 : Nat))) (Value.none) ((0 : Nat)))) (#[])) ::
    ((nat_lit 204), Obj.mk (Value.type ("tuple")) (@Option.none Nat) (Data.seq (#[]) ((0 : Nat))) (#[])) ::
    ((nat_lit 207), Obj.mk (Value.type ("code")) (@Option.none Nat) (Data.fields ((List.toArray ((Value.str (Str.ofString ("__str__")) ((586 : Nat))) :: (Value.str (Str.ofString ("Headers.__str__")) ((587 : Nat))) :: (Value.str (Str.ofString ("/claim/cut.py")) ((588 : Nat))) :: (Value.int (127) ((0 : Nat))) :: (Value.int (1) ((0 : Nat))) :: (Value.int (0) ((0 : Nat))) :: (Value.int (0) ((0 : Nat))) :: (Value.int (3) ((0 : Nat))) :: (Value.ref ((204 : Nat))) :: (Value.bool (Bool.true)) :: (Value.int (276) ((0 : Nat))) :: (Value.ref ((205 : Nat))) :: (Value.none) :: (Value.none) :: (Value.none) :: (Value.ref ((206 : Nat))) :: (Value.int (589) ((0 : Nat))) :: (Value.int (127) ((0 : Nat))) :: (Value.str (Str.ofString ("/claim/cut.py")) ((590 : Nat))) :: [])))) (#[])) ::
    ((nat_lit 208), Obj.mk (Value.type ("function")) (@Option.none Nat) (Data.func (FuncData.mk (Str.ofString ("__str__")) (Str.ofString ("Headers.__str__")) m14x13p (FuncBody.stmts m14x13b) m14x13s ((3 : Nat)) (@List.nil (Str × Nat)) (Value.none) (Value.none) (Value.none) (Value.str (Str.ofString ("cpy313.wsgiref.headers")) ((367 : Nat))) (@Option.none Nat) (Value.ref ((207 : Nat))) (Value.none) ((0 : Nat)))) (#[])) ::
    ((nat_lit 209), Obj.mk (Value.type ("tuple")) (@Option.none Nat) (Data.seq (#[]) ((0 : Nat))) (#[])) ::
    ((nat_lit 211), Obj.mk (Value.type ("tuple")) (@Option.none Nat) (Data.seq (#[Value.str (Str.ofString ("self")) ((595 : Nat))]) ((0 : Nat))) (#[])) ::
    ((nat_lit 212), Obj.mk (Value.type ("tuple")) (@Option.none Nat) (Data.seq (#[]) ((0 : Nat))) (#[])) ::
    ((nat_lit 214), Obj.mk (Value.type ("code")) (@Option.none Nat) (Data.fields ((List.toArray ((Value.str (Str.ofString ("__bytes__")) ((592 : Nat))) :: (Value.str (Str.ofString ("Headers.__bytes__")) ((593 : Nat))) :: (Value.str (Str.ofString ("/claim/cut.py")) ((594 : Nat))) :: (Value.int (130) ((0 : Nat))) :: (Value.int (1) ((0 : Nat))) :: (Value.int (0) ((0 : Nat))) :: (Value.int (0) ((0 : Nat))) :: (Value.int (3) ((0 : Nat))) :: (Value.ref ((209 : Nat))) :: (Value.bool (Bool.true)) :: (Value.int (276) ((0 : Nat))) :: (Value.ref ((210 : Nat))) :: (Value.none) :: (Value.ref ((211 : Nat))) :: (Value.ref ((212 : Nat))) :: (Value.ref ((213 : Nat))) :: (Value.int (596) ((0 : Nat))) :: (Value.int (130) ((0 : Nat))) :: (Value.str (Str.ofString ("/claim/cut.py")) ((597 : Nat))) :: [])))) (#[])) ::
    ((nat_lit 215), Obj.mk (Value.type ("function")) (@Option.none Nat) (Data.func (FuncData.mk (Str.ofString ("__bytes__")) (Str.ofString ("Headers.__bytes__")) m14x14p (FuncBody.stmts m14x14b) m14x14s ((3 : Nat)) (@List.nil (Str × Nat)) (Value.none) (Value.none) (Value.none) (Value.str (Str.ofString ("cpy313.wsgiref.headers")) ((367 : Nat))) (@Option.none Nat) (Value.ref ((214 : Nat))) (Value.none) ((0 : Nat)))) (#[])) ::
    ((nat_lit 216), Obj.mk (Value.type ("tuple")) (@Option.none Nat) (Data.seq (#[]) ((0 : Nat))) (#[])) ::
    ((nat_lit 218), Obj.mk (Value.type ("tuple")) (@Option.none Nat) (Data.seq (#[Value.str (Str.ofString ("self")) ((602 : Nat)), Value.str (Str.ofString ("name")) ((603 : Nat)), Value.str (Str.ofString ("value")) ((604 : Nat))]) ((0 : Nat))) (#[])) ::
    ((nat_lit 219), Obj.mk (Value.type ("tuple")) (@Option.none Nat) (Data.seq (#[]) ((0 : Nat))) (#[])) ::
    ((nat_lit 221), Obj.mk (Value.type ("code")) (@Option.none Nat) (Data.fields ((List.toArray ((Value.str (Str.ofString ("setdefault")) ((599 : Nat))) :: (Value.str (Str.ofString ("Headers.setdefault")) ((600 : Nat))) :: (Value.str (Str.ofString ("/claim/cut.py")) ((601 : Nat))) :: (Value.int (133) ((0 : Nat))) :: (Value.int (3) ((0 : Nat))) :: (Value.int (0) ((0 : Nat))) :: (Value.int (0) ((0 : Nat))) :: (Value.int (3) ((0 : Nat))) :: (Value.ref ((216 : Nat))) :: (Value.bool (Bool.true)) :: (Value.int (276) ((0 : Nat))) :: (Value.ref ((217 : Nat))) :: (Value.none) :: (Value.ref ((218 : Nat))) :: (Value.ref ((219 : Nat))) :: (Value.ref ((220 : Nat))) :: (Value.int (605) ((0 : Nat))) :: (Value.int (133) ((0 : Nat))) :: (Value.str (Str.ofString ("/claim/cut.py")) ((606 : Nat))) :: [])))) (#[])) ::
    ((nat_lit 222), Obj.mk (Value.type ("function")) (@Option.none Nat) (Data.func (FuncData.mk (Str.ofString ("setdefault")) (Str.ofString ("Headers.setdefault")) m14x15p (FuncBody.stmts m14x15b) m14x15s ((3 : Nat)) (@List.nil (Str × Nat)) (Value.none) (Value.none) (Value.none) (Value.str (Str.ofString ("cpy313.wsgiref.headers")) ((367 : Nat))) (@Option.none Nat) (Value.ref ((221 : Nat))) (Value.none) ((0 : Nat)))) (#[])) ::
    ((nat_lit 223), Obj.mk (Value.type ("tuple")) (@Option.none Nat) (Data.seq (#[]) ((0 : Nat))) (#[])) ::
    ((nat_lit 225), Obj.mk (Value.type ("tuple")) (@Option.none Nat) (Data.seq (#[Value.str (Str.ofString ("self")) ((611 : Nat)), Value.str (Str.ofString ("_name")) ((612 : Nat)), Value.str (Str.ofString ("_value")) ((613 : Nat)), Value.str (Str.ofString ("_params")) ((614 : Nat)), Value.str (Str.ofString ("parts")) ((615 : Nat)), Value.str (Str.ofString ("k")) ((616 : Nat)), Value.str (Str.ofString ("v")) ((617 : Nat))]) ((0 : Nat))) (#[])) ::
    ((nat_lit 226), Obj.mk (Value.type ("tuple")) (@Option.none Nat) (Data.seq (#[]) ((0 : Nat))) (#[])) ::
    ((nat_lit 228), Obj.mk (Value.type ("code")) (@Option.none Nat) (Data.fields ((List.toArray ((Value.str (Str.ofString ("add_header")) ((608 : Nat))) :: (Value.str (Str.ofString ("Headers.add_header")) ((609 : Nat))) :: (Value.str (Str.ofString ("/claim/cut.py")) ((610 : Nat))) :: (Value.int (136) ((0 : Nat))) :: (Value.int (3) ((0 : Nat))) :: (Value.int (0) ((0 : Nat))) :: (Value.int (0) ((0 : Nat))) :: (Value.int (11) ((0 : Nat))) :: (Value.ref ((223 : Nat))) :: (Value.bool (Bool.true)) :: (Value.int (276) ((0 : Nat))) :: (Value.ref ((224 : Nat))) :: (Value.none) :: (Value.ref ((225 : Nat))) :: (Value.ref ((226 : Nat))) :: (Value.ref ((227 : Nat))) :: (Value.int (618) ((0 : Nat))) :: (Value.int (136) ((0 : Nat))) :: (Value.str (Str.ofString ("/claim/cut.py")) ((619 : Nat))) :: [])))) (#[])) ::
    ((nat_lit 229), Obj.mk (Value.type ("function")) (@Option.none Nat) (Data.func (FuncData.mk (Str.ofString ("add_header")) (Str.ofString ("Headers.add_header")) m14x16p (FuncBody.stmts m14x16b) m14x16s ((3 : Nat)) (@List.nil (Str × Nat)) (Value.none) (Value.none) (Value.none) (Value.str (Str.ofString ("cpy313.wsgiref.headers")) ((367 : Nat))) (@Option.none Nat) (Value.ref ((228 : Nat))) (Value.none) ((0 : Nat)))) (#[])) ::
    ((nat_lit 230), Obj.mk (Value.type ("tuple")) (@Option.none Nat) (Data.seq (#[Value.str (Str.ofString ("_headers")) ((621 : Nat))]) ((0 : Nat))) (#[])) ::
    ((nat_lit 231), Obj.mk (Value.type ("dict")) (@Option.none Nat) (Data.dict ((List.toArray ((kE P "__module__" (480 : Nat) (Value.str (Str.ofString ("cpy313.wsgiref.headers")) ((367 : Nat)))) :: (kE P "__firstlineno__" (484 : Nat) (Value.int (67) ((483 : Nat)))) :: (kE P "__init__" (494 : Nat) (Value.ref ((126 : Nat)))) :: (kE P "_convert_string_type" (504 : Nat) (Value.ref ((133 : Nat)))) :: (kE P "__len__" (511 : Nat) (Value.ref ((140 : Nat)))) :: (kE P "__setitem__" (520 : Nat) (Value.ref ((147 : Nat)))) :: (kE P "__delitem__" (526 : Nat) (Value.ref ((152 : Nat)))) :: (kE P "__getitem__" (534 : Nat) (Value.ref ((159 : Nat)))) :: (kE P "__contains__" (542 : Nat) (Value.ref ((166 : Nat)))) :: (kE P "get_all" (548 : Nat) (Value.ref ((171 : Nat)))) :: (kE P "get" (559 : Nat) (Value.ref ((179 : Nat)))) :: (kE P "keys" (565 : Nat) (Value.ref ((184 : Nat)))) :: (kE P "values" (571 : Nat) (Value.ref ((189 : Nat)))) :: (kE P "items" (578 : Nat) (Value.ref ((196 : Nat)))) :: (kE P "__repr__" (585 : Nat) (Value.ref ((203 : Nat)))) :: (kE P "__str__" (591 : Nat) (Value.ref ((208 : Nat)))) :: (kE P "__bytes__" (598 : Nat) (Value.ref ((215 : Nat)))) :: (kE P "setdefault" (607 : Nat) (Value.ref ((222 : Nat)))) :: (kE P "add_header" (620 : Nat) (Value.ref ((229 : Nat)))) :: (kE P "__static_attributes__" (622 : Nat) (Value.ref ((230 : Nat)))) :: (kE P "__dict__" (624 : Nat) (Value.ref ((233 : Nat)))) :: (kE P "__weakref__" (626 : Nat) (Value.ref ((234 : Nat)))) :: (kE P "__doc__" (627 : Nat) (Value.none)) :: []))) ((4 : Nat))) (#[])) ::
    ((nat_lit 232), Obj.mk (Value.type ("type")) (@Option.none Nat) (Data.cls (ClassData.mk (Str.ofString ("Headers")) ([Value.type ("object")]) ([Value.ref ((232 : Nat)), Value.type ("object")]) ((231 : Nat)) (Str.ofString ("Headers")) (Bool.true) ([]) ([]) (Bool.false) (Option.none) (Bool.false))) (#[Option.none, Option.none, Option.some (Value.str (Str.ofString ("Headers")) ((473 : Nat))), Option.some (Value.str (Str.ofString ("Headers")) ((481 : Nat))), Option.some (Value.builtin ("object.__new__")), Option.some (Value.bool (Bool.true))])) ::
    ((nat_lit 233), Obj.mk (Value.type ("getset_descriptor")) (@Option.none Nat) (Data.fields (#[Value.str (Str.ofString ("__dict__")) ((623 : Nat)), Value.ref ((232 : Nat)), Value.builtin ("function.__dict__"), Value.builtin ("function.__dict__#set")])) (#[])) ::
    ((nat_lit 234), Obj.mk (Value.type ("getset_descriptor")) (@Option.none Nat) (Data.fields (#[Value.str (Str.ofString ("__weakref__")) ((625 : Nat)), Value.ref ((232 : Nat)), Value.builtin ("ExceptionGroup.__weakref__"), Value.none])) (#[])) ::
    ((nat_lit 237), Obj.mk (Value.type ("tuple")) (@Option.none Nat) (Data.seq (#[]) ((0 : Nat))) (#[])) ::
    ((nat_lit 239), Obj.mk (Value.type ("tuple")) (@Option.none Nat) (Data.seq (#[Value.str (Str.ofString ("script")) ((635 : Nat)), Value.str (Str.ofString ("cells")) ((636 : Nat)), Value.str (Str.ofString ("place")) ((637 : Nat))]) ((0 : Nat))) (#[])) ::
    ((nat_lit 240), Obj.mk (Value.type ("tuple")) (@Option.none Nat) (Data.seq (#[]) ((0 : Nat))) (#[])) ::
    ((nat_lit 242), Obj.mk (Value.type ("code")) (@Option.none Nat) (Data.fields ((List.toArray ((Value.str (Str.ofString ("_law_cells")) ((632 : Nat))) :: (Value.str (Str.ofString ("_law_cells")) ((633 : Nat))) :: (Value.str (Str.ofString ("/claim/cut.py")) ((634 : Nat))) :: (Value.int (150) ((0 : Nat))) :: (Value.int (2) ((0 : Nat))) :: (Value.int (0) ((0 : Nat))) :: (Value.int (0) ((0 : Nat))) :: (Value.int (3) ((0 : Nat))) :: (Value.ref ((237 : Nat))) :: (Value.bool (Bool.true)) :: (Value.int (276) ((0 : Nat))) :: (Value.ref ((238 : Nat))) :: (Value.none) :: (Value.ref ((239 : Nat))) :: (Value.ref ((240 : Nat))) :: (Value.ref ((241 : Nat))) :: (Value.int (638) ((0 : Nat))) :: (Value.int (150) ((0 : Nat))) :: (Value.str (Str.ofString ("/claim/cut.py")) ((639 : Nat))) :: [])))) (#[])) ::
    ((nat_lit 243), Obj.mk (Value.type ("function")) (@Option.none Nat) (Data.func (FuncData.mk (Str.ofString ("_law_cells")) (Str.ofString ("_law_cells")) f16p (FuncBody.stmts f16b) f16s ((3 : Nat)) (@List.nil (Str × Nat)) (Value.none) (Value.none) (Value.none) (Value.str (Str.ofString ("law_ux0026_02")) ((630 : Nat))) (@Option.none Nat) (Value.ref ((242 : Nat))) (Value.none) ((0 : Nat)))) (#[])) ::
    ((nat_lit 244), Obj.mk (Value.type ("tuple")) (@Option.none Nat) (Data.seq (#[]) ((0 : Nat))) (#[])) ::
    ((nat_lit 246), Obj.mk (Value.type ("tuple")) (@Option.none Nat) (Data.seq (#[Value.str (Str.ofString ("numbers")) ((644 : Nat)), Value.str (Str.ofString ("marks")) ((645 : Nat)), Value.str (Str.ofString ("choices")) ((646 : Nat)), Value.str (Str.ofString ("choice")) ((647 : Nat)), Value.str (Str.ofString ("count")) ((648 : Nat)), Value.str (Str.ofString ("total")) ((649 : Nat)), Value.str (Str.ofString ("place")) ((650 : Nat))]) ((0 : Nat))) (#[])) ::
    ((nat_lit 247), Obj.mk (Value.type ("tuple")) (@Option.none Nat) (Data.seq (#[]) ((0 : Nat))) (#[])) ::
    ((nat_lit 249), Obj.mk (Value.type ("code")) (@Option.none Nat) (Data.fields ((List.toArray ((Value.str (Str.ofString ("_law_choices")) ((641 : Nat))) :: (Value.str (Str.ofString ("_law_choices")) ((642 : Nat))) :: (Value.str (Str.ofString ("/claim/cut.py")) ((643 : Nat))) :: (Value.int (154) ((0 : Nat))) :: (Value.int (2) ((0 : Nat))) :: (Value.int (0) ((0 : Nat))) :: (Value.int (0) ((0 : Nat))) :: (Value.int (3) ((0 : Nat))) :: (Value.ref ((244 : Nat))) :: (Value.bool (Bool.true)) :: (Value.int (276) ((0 : Nat))) :: (Value.ref ((245 : Nat))) :: (Value.none) :: (Value.ref ((246 : Nat))) :: (Value.ref ((247 : Nat))) :: (Value.ref ((248 : Nat))) :: (Value.int (651) ((0 : Nat))) :: (Value.int (154) ((0 : Nat))) :: (Value.str (Str.ofString ("/claim/cut.py")) ((652 : Nat))) :: [])))) (#[])) ::
    ((nat_lit 250), Obj.mk (Value.type ("function")) (@Option.none Nat) (Data.func (FuncData.mk (Str.ofString ("_law_choices")) (Str.ofString ("_law_choices")) f17p (FuncBody.stmts f17b) f17s ((3 : Nat)) (@List.nil (Str × Nat)) (Value.none) (Value.none) (Value.none) (Value.str (Str.ofString ("law_ux0026_02")) ((630 : Nat))) (@Option.none Nat) (Value.ref ((249 : Nat))) (Value.none) ((0 : Nat)))) (#[])) ::
    ((nat_lit 251), Obj.mk (Value.type ("tuple")) (@Option.none Nat) (Data.seq (#[]) ((0 : Nat))) (#[])) ::
    ((nat_lit 253), Obj.mk (Value.type ("tuple")) (@Option.none Nat) (Data.seq (#[Value.str (Str.ofString ("choices")) ((657 : Nat)), Value.str (Str.ofString ("letter")) ((658 : Nat)), Value.str (Str.ofString ("tail")) ((659 : Nat)), Value.str (Str.ofString ("table")) ((660 : Nat)), Value.str (Str.ofString ("answers")) ((661 : Nat)), Value.str (Str.ofString ("place")) ((662 : Nat)), Value.str (Str.ofString ("count")) ((663 : Nat)), Value.str (Str.ofString ("total")) ((664 : Nat)), Value.str (Str.ofString ("sign")) ((665 : Nat)), Value.str (Str.ofString ("told")) ((666 : Nat))]) ((0 : Nat))) (#[])) ::
    ((nat_lit 254), Obj.mk (Value.type ("tuple")) (@Option.none Nat) (Data.seq (#[]) ((0 : Nat))) (#[])) ::
    ((nat_lit 256), Obj.mk (Value.type ("code")) (@Option.none Nat) (Data.fields ((List.toArray ((Value.str (Str.ofString ("_law_table")) ((654 : Nat))) :: (Value.str (Str.ofString ("_law_table")) ((655 : Nat))) :: (Value.str (Str.ofString ("/claim/cut.py")) ((656 : Nat))) :: (Value.int (165) ((0 : Nat))) :: (Value.int (3) ((0 : Nat))) :: (Value.int (0) ((0 : Nat))) :: (Value.int (0) ((0 : Nat))) :: (Value.int (3) ((0 : Nat))) :: (Value.ref ((251 : Nat))) :: (Value.bool (Bool.true)) :: (Value.int (276) ((0 : Nat))) :: (Value.ref ((252 : Nat))) :: (Value.none) :: (Value.ref ((253 : Nat))) :: (Value.ref ((254 : Nat))) :: (Value.ref ((255 : Nat))) :: (Value.int (667) ((0 : Nat))) :: (Value.int (165) ((0 : Nat))) :: (Value.str (Str.ofString ("/claim/cut.py")) ((668 : Nat))) :: [])))) (#[])) ::
    ((nat_lit 257), Obj.mk (Value.type ("function")) (@Option.none Nat) (Data.func (FuncData.mk (Str.ofString ("_law_table")) (Str.ofString ("_law_table")) f18p (FuncBody.stmts f18b) f18s ((3 : Nat)) (@List.nil (Str × Nat)) (Value.none) (Value.none) (Value.none) (Value.str (Str.ofString ("law_ux0026_02")) ((630 : Nat))) (@Option.none Nat) (Value.ref ((256 : Nat))) (Value.none) ((0 : Nat)))) (#[])) ::
    ((nat_lit 258), Obj.mk (Value.type ("tuple")) (@Option.none Nat) (Data.seq (#[]) ((0 : Nat))) (#[])) ::
    ((nat_lit 260), Obj.mk (Value.type ("tuple")) (@Option.none Nat) (Data.seq (#[Value.str (Str.ofString ("choices")) ((673 : Nat)), Value.str (Str.ofString ("letter")) ((674 : Nat)), Value.str (Str.ofString ("names")) ((675 : Nat)), Value.str (Str.ofString ("place")) ((676 : Nat)), Value.str (Str.ofString ("name")) ((677 : Nat))]) ((0 : Nat))) (#[])) ::
    ((nat_lit 261), Obj.mk (Value.type ("tuple")) (@Option.none Nat) (Data.seq (#[]) ((0 : Nat))) (#[])) ::
    ((nat_lit 263), Obj.mk (Value.type ("code")) (@Option.none Nat) (Data.fields ((List.toArray ((Value.str (Str.ofString ("_law_names")) ((670 : Nat))) :: (Value.str (Str.ofString ("_law_names")) ((671 : Nat))) :: (Value.str (Str.ofString ("/claim/cut.py")) ((672 : Nat))) :: (Value.int (176) ((0 : Nat))) :: (Value.int (2) ((0 : Nat))) :: (Value.int (0) ((0 : Nat))) :: (Value.int (0) ((0 : Nat))) :: (Value.int (3) ((0 : Nat))) :: (Value.ref ((258 : Nat))) :: (Value.bool (Bool.true)) :: (Value.int (276) ((0 : Nat))) :: (Value.ref ((259 : Nat))) :: (Value.none) :: (Value.ref ((260 : Nat))) :: (Value.ref ((261 : Nat))) :: (Value.ref ((262 : Nat))) :: (Value.int (678) ((0 : Nat))) :: (Value.int (176) ((0 : Nat))) :: (Value.str (Str.ofString ("/claim/cut.py")) ((679 : Nat))) :: [])))) (#[])) ::
    ((nat_lit 264), Obj.mk (Value.type ("function")) (@Option.none Nat) (Data.func (FuncData.mk (Str.ofString ("_law_names")) (Str.ofString ("_law_names")) f19p (FuncBody.stmts f19b) f19s ((3 : Nat)) (@List.nil (Str × Nat)) (Value.none) (Value.none) (Value.none) (Value.str (Str.ofString ("law_ux0026_02")) ((630 : Nat))) (@Option.none Nat) (Value.ref ((263 : Nat))) (Value.none) ((0 : Nat)))) (#[])) ::
    ((nat_lit 265), Obj.mk (Value.type ("tuple")) (@Option.none Nat) (Data.seq (#[]) ((0 : Nat))) (#[])) ::
    ((nat_lit 268), Obj.mk (Value.type ("code")) (@Option.none Nat) (Data.fields ((List.toArray ((Value.str (Str.ofString ("_law_row")) ((681 : Nat))) :: (Value.str (Str.ofString ("_law_row")) ((682 : Nat))) :: (Value.str (Str.ofString ("/claim/cut.py")) ((683 : Nat))) :: (Value.int (186) ((0 : Nat))) :: (Value.int (4) ((0 : Nat))) :: (Value.int (0) ((0 : Nat))) :: (Value.int (0) ((0 : Nat))) :: (Value.int (3) ((0 : Nat))) :: (Value.ref ((265 : Nat))) :: (Value.bool (Bool.true)) :: (Value.int (276) ((0 : Nat))) :: (Value.ref ((266 : Nat))) :: (Value.none) :: (Value.none) :: (Value.none) :: (Value.ref ((267 : Nat))) :: (Value.int (684) ((0 : Nat))) :: (Value.int (186) ((0 : Nat))) :: (Value.str (Str.ofString ("/claim/cut.py")) ((685 : Nat))) :: [])))) (#[])) ::
    ((nat_lit 269), Obj.mk (Value.type ("function")) (@Option.none Nat) (Data.func (FuncData.mk (Str.ofString ("_law_row")) (Str.ofString ("_law_row")) f20p (FuncBody.stmts f20b) f20s ((3 : Nat)) (@List.nil (Str × Nat)) (Value.none) (Value.none) (Value.none) (Value.str (Str.ofString ("law_ux0026_02")) ((630 : Nat))) (@Option.none Nat) (Value.ref ((268 : Nat))) (Value.none) ((0 : Nat)))) (#[])) ::
    ((nat_lit 270), Obj.mk (Value.type ("tuple")) (@Option.none Nat) (Data.seq (#[]) ((0 : Nat))) (#[])) ::
    ((nat_lit 272), Obj.mk (Value.type ("tuple")) (@Option.none Nat) (Data.seq (#[Value.str (Str.ofString ("reply")) ((690 : Nat))]) ((0 : Nat))) (#[])) ::
    ((nat_lit 273), Obj.mk (Value.type ("tuple")) (@Option.none Nat) (Data.seq (#[]) ((0 : Nat))) (#[])) ::
    ((nat_lit 275), Obj.mk (Value.type ("code")) (@Option.none Nat) (Data.fields ((List.toArray ((Value.str (Str.ofString ("_law_refused")) ((687 : Nat))) :: (Value.str (Str.ofString ("_law_refused")) ((688 : Nat))) :: (Value.str (Str.ofString ("/claim/cut.py")) ((689 : Nat))) :: (Value.int (196) ((0 : Nat))) :: (Value.int (1) ((0 : Nat))) :: (Value.int (0) ((0 : Nat))) :: (Value.int (0) ((0 : Nat))) :: (Value.int (3) ((0 : Nat))) :: (Value.ref ((270 : Nat))) :: (Value.bool (Bool.true)) :: (Value.int (276) ((0 : Nat))) :: (Value.ref ((271 : Nat))) :: (Value.none) :: (Value.ref ((272 : Nat))) :: (Value.ref ((273 : Nat))) :: (Value.ref ((274 : Nat))) :: (Value.int (691) ((0 : Nat))) :: (Value.int (196) ((0 : Nat))) :: (Value.str (Str.ofString ("/claim/cut.py")) ((692 : Nat))) :: [])))) (#[])) ::
    ((nat_lit 276), Obj.mk (Value.type ("function")) (@Option.none Nat) (Data.func (FuncData.mk (Str.ofString ("_law_refused")) (Str.ofString ("_law_refused")) f21p (FuncBody.stmts f21b) f21s ((3 : Nat)) (@List.nil (Str × Nat)) (Value.none) (Value.none) (Value.none) (Value.str (Str.ofString ("law_ux0026_02")) ((630 : Nat))) (@Option.none Nat) (Value.ref ((275 : Nat))) (Value.none) ((0 : Nat)))) (#[])) ::
    ((nat_lit 277), Obj.mk (Value.type ("tuple")) (@Option.none Nat) (Data.seq (#[]) ((0 : Nat))) (#[])) ::
    ((nat_lit 280), Obj.mk (Value.type ("code")) (@Option.none Nat) (Data.fields ((List.toArray ((Value.str (Str.ofString ("law")) ((694 : Nat))) :: (Value.str (Str.ofString ("law")) ((695 : Nat))) :: (Value.str (Str.ofString ("/claim/cut.py")) ((696 : Nat))) :: (Value.int (202) ((0 : Nat))) :: (Value.int (1) ((0 : Nat))) :: (Value.int (0) ((0 : Nat))) :: (Value.int (0) ((0 : Nat))) :: (Value.int (3) ((0 : Nat))) :: (Value.ref ((277 : Nat))) :: (Value.bool (Bool.true)) :: (Value.int (276) ((0 : Nat))) :: (Value.ref ((278 : Nat))) :: (Value.none) :: (Value.none) :: (Value.none) :: (Value.ref ((279 : Nat))) :: (Value.int (697) ((0 : Nat))) :: (Value.int (202) ((0 : Nat))) :: (Value.str (Str.ofString ("/claim/cut.py")) ((698 : Nat))) :: [])))) (#[])) ::
    ((nat_lit 281), Obj.mk (Value.type ("function")) (@Option.none Nat) (Data.func (FuncData.mk (Str.ofString ("law")) (Str.ofString ("law")) f22p (FuncBody.stmts f22b) f22s ((3 : Nat)) (@List.nil (Str × Nat)) (Value.none) (Value.none) (Value.none) (Value.str (Str.ofString ("law_ux0026_02")) ((630 : Nat))) (@Option.none Nat) (Value.ref ((280 : Nat))) (Value.none) ((0 : Nat)))) (#[])) :: [] : List (Nat × Obj))) = K → Params → Frag) ?b ?h
  case h => delta kE f1p f1b f1s f13p f13b f13s f16p f16b f16s f17p f17b f17s f18p f18b f18s f19p f19b f19s f20p f20b f20s f21p f21b f21s f22p f22b f22s f5p f5b f5s f7p f7b f7s f8p f8b f8s m14x0p m14x0b m14x0s m14x1p m14x1b m14x1s m14x10p m14x10b m14x10s m14x11p m14x11b m14x11s m14x12p m14x12b m14x12s m14x13p m14x13b m14x13s m14x14p m14x14b m14x14s m14x15p m14x15b m14x15s m14x16p m14x16b m14x16s m14x2p m14x2b m14x2s m14x3p m14x3b m14x3s m14x4p m14x4b m14x4s m14x5p m14x5b m14x5s m14x6p m14x6b m14x6s m14x7p m14x7b m14x7s m14x8p m14x8b m14x8s m14x9p m14x9b m14x9s; exact rfl
  case f => exact fun K _ => K
abbrev looseK : List Str := [Str.ofString "insort_right", Str.ofString "bisect_right", Str.ofString "tspecials", Str.ofString "_name_disallowed_re", Str.ofString "_value_disallowed_re", Str.ofString "_formatparam"]
noncomputable def viewK : Program := view PySem.Challenge.pw_ux0026_02 [0, 1, 3, 4, 5, 10, 11, 12, 14, 16, 17, 18, 19, 20, 21, 22]
abbrev addrsK : List Addr := [2, 3, 32, 34, 35, 37, 38, 39, 46, 47, 48, 49, 52, 59, 60, 61, 64, 66, 67, 69, 70, 71, 72, 73, 75, 76, 78, 79, 80, 81, 82, 84, 85, 87, 88, 92, 93, 97, 98, 102, 103, 104, 105, 107, 108, 110, 111, 119, 120, 122, 123, 125, 126, 127, 129, 130, 132, 133, 134, 136, 137, 139, 140, 141, 143, 144, 146, 147, 148, 151, 152, 153, 155, 156, 158, 159, 160, 162, 163, 165, 166, 167, 170, 171, 172, 173, 175, 176, 178, 179, 180, 183, 184, 185, 188, 189, 190, 192, 193, 195, 196, 197, 199, 200, 202, 203, 204, 207, 208, 209, 211, 212, 214, 215, 216, 218, 219, 221, 222, 223, 225, 226, 228, 229, 230, 231, 232, 233, 234, 237, 239, 240, 242, 243, 244, 246, 247, 249, 250, 251, 253, 254, 256, 257, 258, 260, 261, 263, 264, 265, 268, 269, 270, 272, 273, 275, 276, 277, 280, 281]
noncomputable def posAt (p : Program) (i : Nat) : Pos := match p.main.body[i]? with | some (.FunctionDef _ _ _ _ _ _ _ _ _ pos) => pos | _ => default
noncomputable def posL : Pos := by
  refine (?f : ∀ b : Pos, posAt PySem.Challenge.pw_ux0026_02 22 = b → Pos) ?b ?h
  case h => conv => lhs; whnf
  case f => exact fun b _ => b
noncomputable def recLaw : DefRec := by
  refine (?f : ∀ b : DefRec, DefRec.mk (Str.ofString "law") f22p f22b f22s posL = b → DefRec) ?b ?h
  case h => delta posL f22p f22b f22s; exact rfl
  case f => exact fun b _ => b
noncomputable def o0K (P : Params) : Obj := Obj.mk (Value.type ("dict")) (@Option.none Nat) (Data.dict ((List.toArray ((kE P "__name__" (1 : Nat) (Value.str (Str.ofString ("builtins")) ((160 : Nat)))) :: (kE P "__doc__" (2 : Nat) (Value.builtin ("builtins.__doc__:str#opaque"))) :: (kE P "__package__" (3 : Nat) (Value.builtin ("builtins.__package__:str#opaque"))) :: (kE P "__loader__" (4 : Nat) (Value.builtin ("builtins.__loader__:shared#opaque"))) :: (kE P "__spec__" (5 : Nat) (Value.builtin ("builtins.__spec__#opaque"))) :: (kE P "__build_class__" (6 : Nat) (Value.builtin ("__build_class__"))) :: (kE P "__import__" (7 : Nat) (Value.builtin ("__import__"))) :: (kE P "abs" (8 : Nat) (Value.builtin ("abs"))) :: (kE P "all" (9 : Nat) (Value.builtin ("all"))) :: (kE P "any" (10 : Nat) (Value.builtin ("any"))) :: (kE P "ascii" (11 : Nat) (Value.builtin ("ascii"))) :: (kE P "bin" (12 : Nat) (Value.builtin ("bin"))) :: (kE P "breakpoint" (13 : Nat) (Value.builtin ("breakpoint"))) :: (kE P "callable" (14 : Nat) (Value.builtin ("callable"))) :: (kE P "chr" (15 : Nat) (Value.builtin ("chr"))) :: (kE P "compile" (16 : Nat) (Value.builtin ("compile"))) :: (kE P "delattr" (17 : Nat) (Value.builtin ("delattr"))) :: (kE P "dir" (18 : Nat) (Value.builtin ("dir"))) :: (kE P "divmod" (19 : Nat) (Value.builtin ("divmod"))) :: (kE P "eval" (20 : Nat) (Value.builtin ("eval"))) :: (kE P "exec" (21 : Nat) (Value.builtin ("exec"))) :: (kE P "format" (22 : Nat) (Value.builtin ("format"))) :: (kE P "getattr" (23 : Nat) (Value.builtin ("getattr"))) :: (kE P "globals" (24 : Nat) (Value.builtin ("globals"))) :: (kE P "hasattr" (25 : Nat) (Value.builtin ("hasattr"))) :: (kE P "hash" (26 : Nat) (Value.builtin ("hash"))) :: (kE P "hex" (27 : Nat) (Value.builtin ("hex"))) :: (kE P "id" (28 : Nat) (Value.builtin ("id"))) :: (kE P "input" (29 : Nat) (Value.builtin ("input"))) :: (kE P "isinstance" (30 : Nat) (Value.builtin ("isinstance"))) :: (kE P "issubclass" (31 : Nat) (Value.builtin ("issubclass"))) :: (kE P "iter" (32 : Nat) (Value.builtin ("iter"))) :: (kE P "aiter" (33 : Nat) (Value.builtin ("aiter"))) :: (kE P "len" (34 : Nat) (Value.builtin ("len"))) :: (kE P "locals" (35 : Nat) (Value.builtin ("locals"))) :: (kE P "max" (36 : Nat) (Value.builtin ("max"))) :: (kE P "min" (37 : Nat) (Value.builtin ("min"))) :: (kE P "next" (38 : Nat) (Value.builtin ("next"))) :: (kE P "anext" (39 : Nat) (Value.builtin ("anext"))) :: (kE P "oct" (40 : Nat) (Value.builtin ("oct"))) :: (kE P "ord" (41 : Nat) (Value.builtin ("ord"))) :: (kE P "pow" (42 : Nat) (Value.builtin ("pow"))) :: (kE P "print" (43 : Nat) (Value.builtin ("print"))) :: (kE P "repr" (44 : Nat) (Value.builtin ("repr"))) :: (kE P "round" (45 : Nat) (Value.builtin ("round"))) :: (kE P "setattr" (46 : Nat) (Value.builtin ("setattr"))) :: (kE P "sorted" (47 : Nat) (Value.builtin ("sorted"))) :: (kE P "sum" (48 : Nat) (Value.builtin ("sum"))) :: (kE P "vars" (49 : Nat) (Value.builtin ("vars"))) :: (kE P "None" (50 : Nat) (Value.none)) :: (kE P "Ellipsis" (51 : Nat) (Value.ellipsis)) :: (kE P "NotImplemented" (52 : Nat) (Value.notImplemented)) :: (kE P "False" (53 : Nat) (Value.bool (Bool.false))) :: (kE P "True" (54 : Nat) (Value.bool (Bool.true))) :: (kE P "bool" (55 : Nat) (Value.type ("bool"))) :: (kE P "memoryview" (56 : Nat) (Value.type ("memoryview"))) :: (kE P "bytearray" (57 : Nat) (Value.type ("bytearray"))) :: (kE P "bytes" (58 : Nat) (Value.type ("bytes"))) :: (kE P "classmethod" (59 : Nat) (Value.type ("classmethod"))) :: (kE P "complex" (60 : Nat) (Value.type ("complex"))) :: (kE P "dict" (61 : Nat) (Value.type ("dict"))) :: (kE P "enumerate" (62 : Nat) (Value.type ("enumerate"))) :: (kE P "filter" (63 : Nat) (Value.type ("filter"))) :: (kE P "float" (64 : Nat) (Value.type ("float"))) :: (kE P "frozenset" (65 : Nat) (Value.type ("frozenset"))) :: (kE P "property" (66 : Nat) (Value.type ("property"))) :: (kE P "int" (67 : Nat) (Value.type ("int"))) :: (kE P "list" (68 : Nat) (Value.type ("list"))) :: (kE P "map" (69 : Nat) (Value.type ("map"))) :: (kE P "object" (70 : Nat) (Value.type ("object"))) :: (kE P "range" (71 : Nat) (Value.type ("range"))) :: (kE P "reversed" (72 : Nat) (Value.type ("reversed"))) :: (kE P "set" (73 : Nat) (Value.type ("set"))) :: (kE P "slice" (74 : Nat) (Value.type ("slice"))) :: (kE P "staticmethod" (75 : Nat) (Value.type ("staticmethod"))) :: (kE P "str" (76 : Nat) (Value.type ("str"))) :: (kE P "super" (77 : Nat) (Value.type ("super"))) :: (kE P "tuple" (78 : Nat) (Value.type ("tuple"))) :: (kE P "type" (79 : Nat) (Value.type ("type"))) :: (kE P "zip" (80 : Nat) (Value.type ("zip"))) :: (kE P "__debug__" (81 : Nat) (Value.bool (Bool.true))) :: (kE P "BaseException" (82 : Nat) (Value.type ("BaseException"))) :: (kE P "BaseExceptionGroup" (83 : Nat) (Value.type ("BaseExceptionGroup"))) :: (kE P "Exception" (84 : Nat) (Value.type ("Exception"))) :: (kE P "GeneratorExit" (85 : Nat) (Value.type ("GeneratorExit"))) :: (kE P "KeyboardInterrupt" (86 : Nat) (Value.type ("KeyboardInterrupt"))) :: (kE P "SystemExit" (87 : Nat) (Value.type ("SystemExit"))) :: (kE P "ArithmeticError" (88 : Nat) (Value.type ("ArithmeticError"))) :: (kE P "AssertionError" (89 : Nat) (Value.type ("AssertionError"))) :: (kE P "AttributeError" (90 : Nat) (Value.type ("AttributeError"))) :: (kE P "BufferError" (91 : Nat) (Value.type ("BufferError"))) :: (kE P "EOFError" (92 : Nat) (Value.type ("EOFError"))) :: (kE P "ImportError" (93 : Nat) (Value.type ("ImportError"))) :: (kE P "LookupError" (94 : Nat) (Value.type ("LookupError"))) :: (kE P "MemoryError" (95 : Nat) (Value.type ("MemoryError"))) :: (kE P "NameError" (96 : Nat) (Value.type ("NameError"))) :: (kE P "OSError" (97 : Nat) (Value.type ("OSError"))) :: (kE P "ReferenceError" (98 : Nat) (Value.type ("ReferenceError"))) :: (kE P "RuntimeError" (99 : Nat) (Value.type ("RuntimeError"))) :: (kE P "StopAsyncIteration" (100 : Nat) (Value.type ("StopAsyncIteration"))) :: (kE P "StopIteration" (101 : Nat) (Value.type ("StopIteration"))) :: (kE P "SyntaxError" (102 : Nat) (Value.type ("SyntaxError"))) :: (kE P "SystemError" (103 : Nat) (Value.type ("SystemError"))) :: (kE P "TypeError" (104 : Nat) (Value.type ("TypeError"))) :: (kE P "ValueError" (105 : Nat) (Value.type ("ValueError"))) :: (kE P "Warning" (106 : Nat) (Value.type ("Warning"))) :: (kE P "FloatingPointError" (107 : Nat) (Value.type ("FloatingPointError"))) :: (kE P "OverflowError" (108 : Nat) (Value.type ("OverflowError"))) :: (kE P "ZeroDivisionError" (109 : Nat) (Value.type ("ZeroDivisionError"))) :: (kE P "BytesWarning" (110 : Nat) (Value.type ("BytesWarning"))) :: (kE P "DeprecationWarning" (111 : Nat) (Value.type ("DeprecationWarning"))) :: (kE P "EncodingWarning" (112 : Nat) (Value.type ("EncodingWarning"))) :: (kE P "FutureWarning" (113 : Nat) (Value.type ("FutureWarning"))) :: (kE P "ImportWarning" (114 : Nat) (Value.type ("ImportWarning"))) :: (kE P "PendingDeprecationWarning" (115 : Nat) (Value.type ("PendingDeprecationWarning"))) :: (kE P "ResourceWarning" (116 : Nat) (Value.type ("ResourceWarning"))) :: (kE P "RuntimeWarning" (117 : Nat) (Value.type ("RuntimeWarning"))) :: (kE P "SyntaxWarning" (118 : Nat) (Value.type ("SyntaxWarning"))) :: (kE P "UnicodeWarning" (119 : Nat) (Value.type ("UnicodeWarning"))) :: (kE P "UserWarning" (120 : Nat) (Value.type ("UserWarning"))) :: (kE P "BlockingIOError" (121 : Nat) (Value.type ("BlockingIOError"))) :: (kE P "ChildProcessError" (122 : Nat) (Value.type ("ChildProcessError"))) :: (kE P "ConnectionError" (123 : Nat) (Value.type ("ConnectionError"))) :: (kE P "FileExistsError" (124 : Nat) (Value.type ("FileExistsError"))) :: (kE P "FileNotFoundError" (125 : Nat) (Value.type ("FileNotFoundError"))) :: (kE P "InterruptedError" (126 : Nat) (Value.type ("InterruptedError"))) :: (kE P "IsADirectoryError" (127 : Nat) (Value.type ("IsADirectoryError"))) :: (kE P "NotADirectoryError" (128 : Nat) (Value.type ("NotADirectoryError"))) :: (kE P "PermissionError" (129 : Nat) (Value.type ("PermissionError"))) :: (kE P "ProcessLookupError" (130 : Nat) (Value.type ("ProcessLookupError"))) :: (kE P "TimeoutError" (131 : Nat) (Value.type ("TimeoutError"))) :: (kE P "IndentationError" (132 : Nat) (Value.type ("IndentationError"))) :: (kE P "_IncompleteInputError" (133 : Nat) (Value.type ("_IncompleteInputError"))) :: (kE P "IndexError" (134 : Nat) (Value.type ("IndexError"))) :: (kE P "KeyError" (135 : Nat) (Value.type ("KeyError"))) :: (kE P "ModuleNotFoundError" (136 : Nat) (Value.type ("ModuleNotFoundError"))) :: (kE P "NotImplementedError" (137 : Nat) (Value.type ("NotImplementedError"))) :: (kE P "PythonFinalizationError" (138 : Nat) (Value.type ("PythonFinalizationError"))) :: (kE P "RecursionError" (139 : Nat) (Value.type ("RecursionError"))) :: (kE P "UnboundLocalError" (140 : Nat) (Value.type ("UnboundLocalError"))) :: (kE P "UnicodeError" (141 : Nat) (Value.type ("UnicodeError"))) :: (kE P "BrokenPipeError" (142 : Nat) (Value.type ("BrokenPipeError"))) :: (kE P "ConnectionAbortedError" (143 : Nat) (Value.type ("ConnectionAbortedError"))) :: (kE P "ConnectionRefusedError" (144 : Nat) (Value.type ("ConnectionRefusedError"))) :: (kE P "ConnectionResetError" (145 : Nat) (Value.type ("ConnectionResetError"))) :: (kE P "TabError" (146 : Nat) (Value.type ("TabError"))) :: (kE P "UnicodeDecodeError" (147 : Nat) (Value.type ("UnicodeDecodeError"))) :: (kE P "UnicodeEncodeError" (148 : Nat) (Value.type ("UnicodeEncodeError"))) :: (kE P "UnicodeTranslateError" (149 : Nat) (Value.type ("UnicodeTranslateError"))) :: (kE P "ExceptionGroup" (150 : Nat) (Value.type ("ExceptionGroup"))) :: (kE P "EnvironmentError" (151 : Nat) (Value.type ("OSError"))) :: (kE P "IOError" (152 : Nat) (Value.type ("OSError"))) :: (kE P "open" (153 : Nat) (Value.builtin ("open"))) :: (kE P "quit" (154 : Nat) (Value.builtin ("builtins.quit#opaque"))) :: (kE P "exit" (155 : Nat) (Value.builtin ("builtins.exit#opaque"))) :: (kE P "copyright" (156 : Nat) (Value.builtin ("builtins.copyright#opaque"))) :: (kE P "credits" (157 : Nat) (Value.builtin ("builtins.credits#opaque"))) :: (kE P "license" (158 : Nat) (Value.builtin ("builtins.license#opaque"))) :: (kE P "help" (159 : Nat) (Value.builtin ("builtins.help#opaque"))) :: []))) ((159 : Nat))) (#[])
noncomputable def o1K (P : Params) : Obj := Obj.mk (Value.type ("dict")) (@Option.none Nat) (Data.dict (#[kE P "builtins" (162 : Nat) (Value.ref ((4 : Nat))), kE P "__main__" (163 : Nat) (Value.ref ((5 : Nat))), kE P "_sre" (244 : Nat) (Value.ref ((12 : Nat)))]) ((3 : Nat))) (#[])
noncomputable def o2K (P : Params) : Obj := Obj.mk (Value.none) (@Option.none Nat) (Data.dict (#[kE P "\x69mport.loaded._sre" (183 : Nat) (Value.bool (Bool.true)), kE P "class._frozen_importlib.BuiltinImporter" (185 : Nat) (Value.ref ((14 : Nat))), kE P "watched.\x69mport" (206 : Nat) (Value.ref ((18 : Nat))), kE P "class._frozen_importlib.ModuleSpec" (216 : Nat) (Value.ref ((22 : Nat))), kE P "sys.modules.booked-epoch" (245 : Nat) (Value.int (3) ((0 : Nat))), kE P "\x69mport.later-laid._sre" (270 : Nat) (Value.bool (Bool.true)), kE P "watched.library" (272 : Nat) (Value.ref ((27 : Nat))), kE P "watched.library-objects" (0 : Nat) (Value.str (Str.ofString ("\x0c")) ((0 : Nat))), kE P "watched.library-deep._sre" (273 : Nat) (Value.str (Str.ofString ("\x04\x00\x00\x0b\x04\x00\x00\x0b\x04\x00\x00\x03\x04\x00\x00\x0b\x08\x04dict\x02")) ((0 : Nat)))]) ((9 : Nat))) (#[])
noncomputable def o3K (P : Params) : Obj := Obj.mk (Value.type ("dict")) (@Option.none Nat) (Data.dict (#[kE P "__name__" (165 : Nat) (Value.str (Str.ofString ("__main__")) ((164 : Nat))), kE P "__doc__" (166 : Nat) (Value.none), kE P "__package__" (167 : Nat) (Value.none), kE P "__loader__" (168 : Nat) (Value.builtin ("__main__.__loader__#opaque")), kE P "__spec__" (169 : Nat) (Value.none), kE P "__annotations__" (170 : Nat) (Value.ref ((6 : Nat))), kE P "__builtins__" (171 : Nat) (Value.ref ((4 : Nat))), kE P "__file__" (173 : Nat) (Value.str (Str.ofString ("/claim/cut.py")) ((172 : Nat))), kE P "__cached__" (174 : Nat) (Value.none), kE P "_sre" (275 : Nat) (Value.ref ((12 : Nat)))]) ((10 : Nat))) (#[])
noncomputable def o4K (P : Params) : Obj := Obj.mk (Value.type ("module")) (Option.some ((0 : Nat))) (Data.plain) (#[])
noncomputable def o5K (P : Params) : Obj := Obj.mk (Value.type ("module")) (Option.some ((3 : Nat))) (Data.plain) (#[])
noncomputable def o6K (P : Params) : Obj := Obj.mk (Value.type ("dict")) (@Option.none Nat) (Data.dict (#[]) ((0 : Nat))) (#[])
noncomputable def o7K (P : Params) : Obj := Obj.mk (Value.type ("tuple")) (@Option.none Nat) (Data.seq (#[]) ((0 : Nat))) (#[])
noncomputable def o8K (P : Params) : Obj := Obj.mk (Value.none) (@Option.none Nat) (Data.fields (#[])) (#[])
noncomputable def o9K (P : Params) : Obj := Obj.mk (Value.type ("code")) (@Option.none Nat) (Data.fields ((List.toArray ((Value.str (Str.ofString ("<module>")) ((176 : Nat))) :: (Value.str (Str.ofString ("<module>")) ((177 : Nat))) :: (Value.str (Str.ofString ("/claim/cut.py")) ((178 : Nat))) :: (Value.int (1) ((0 : Nat))) :: (Value.int (0) ((0 : Nat))) :: (Value.int (0) ((0 : Nat))) :: (Value.int (0) ((0 : Nat))) :: (Value.int (0) ((0 : Nat))) :: (Value.ref ((7 : Nat))) :: (Value.bool (Bool.false)) :: (Value.int (175) ((0 : Nat))) :: (Value.ref ((8 : Nat))) :: (Value.none) :: (Value.none) :: (Value.none) :: (Value.none) :: (Value.int (179) ((0 : Nat))) :: (Value.int (1) ((0 : Nat))) :: (Value.str (Str.ofString ("/claim/cut.py")) ((180 : Nat))) :: [])))) (#[])
noncomputable def o10K (P : Params) : Obj := Obj.mk (Value.type ("frame")) (@Option.none Nat) (Data.plain) (#[Option.some (Value.ref ((9 : Nat))), Option.some (Value.ref ((3 : Nat))), Option.some (Value.ref ((3 : Nat))), Option.none, Option.some (Value.str (Str.ofString ("__main__")) ((164 : Nat))), Option.none, Option.some (Value.ref ((0 : Nat)))])
noncomputable def o11K (P : Params) : Obj := Obj.mk (Value.type ("dict")) (@Option.none Nat) (Data.dict ((List.toArray ((kE P "__name__" (247 : Nat) (Value.str (Str.ofString ("_sre")) ((246 : Nat)))) :: (kE P "__doc__" (248 : Nat) (Value.none)) :: (kE P "__package__" (250 : Nat) (Value.str (Str.ofString ("")) ((249 : Nat)))) :: (kE P "__loader__" (251 : Nat) (Value.ref ((14 : Nat)))) :: (kE P "__spec__" (252 : Nat) (Value.ref ((26 : Nat)))) :: (kE P "compile" (253 : Nat) (Value.builtin ("_sre.compile"))) :: (kE P "template" (254 : Nat) (Value.builtin ("_sre.template"))) :: (kE P "getcodesize" (255 : Nat) (Value.builtin ("_sre.getcodesize"))) :: (kE P "ascii_iscased" (256 : Nat) (Value.builtin ("_sre.ascii_iscased"))) :: (kE P "unicode_iscased" (257 : Nat) (Value.builtin ("_sre.unicode_iscased"))) :: (kE P "ascii_tolower" (258 : Nat) (Value.builtin ("_sre.ascii_tolower"))) :: (kE P "unicode_tolower" (259 : Nat) (Value.builtin ("_sre.unicode_tolower"))) :: (kE P "MAGIC" (261 : Nat) (Value.int (20230612) ((260 : Nat)))) :: (kE P "CODESIZE" (263 : Nat) (Value.int (4) ((262 : Nat)))) :: (kE P "MAXREPEAT" (265 : Nat) (Value.int (4294967295) ((264 : Nat)))) :: (kE P "MAXGROUPS" (267 : Nat) (Value.int (1073741823) ((266 : Nat)))) :: (kE P "copyright" (269 : Nat) (Value.str (Str.ofString (" SRE 2.2.2 Copyright (c) 1997-2002 by Secret Labs AB ")) ((268 : Nat)))) :: []))) ((17 : Nat))) (#[])
noncomputable def o12K (P : Params) : Obj := Obj.mk (Value.type ("module")) (Option.some ((11 : Nat))) (Data.plain) (#[])
noncomputable def o13K (P : Params) : Obj := Obj.mk (Value.type ("dict")) (@Option.none Nat) (Data.dict (#[kE P "__module__" (189 : Nat) (Value.str (Str.ofString ("_frozen_importlib")) ((186 : Nat))), kE P "__firstlineno__" (190 : Nat) (Value.int (971) ((187 : Nat))), kE P "__doc__" (191 : Nat) (Value.builtin ("_frozen_importlib.BuiltinImporter.__doc__:str#opaque")), kE P "_ORIGIN" (192 : Nat) (Value.str (Str.ofString ("built-in")) ((188 : Nat))), kE P "find_spec" (193 : Nat) (Value.builtin ("_frozen_importlib.BuiltinImporter.find_spec#opaque")), kE P "create_module" (194 : Nat) (Value.builtin ("_frozen_importlib.BuiltinImporter.create_module#opaque")), kE P "exec_module" (195 : Nat) (Value.builtin ("_frozen_importlib.BuiltinImporter.exec_module#opaque")), kE P "get_code" (196 : Nat) (Value.builtin ("_frozen_importlib.BuiltinImporter.get_code#opaque")), kE P "get_source" (197 : Nat) (Value.builtin ("_frozen_importlib.BuiltinImporter.get_source#opaque")), kE P "is_package" (198 : Nat) (Value.builtin ("_frozen_importlib.BuiltinImporter.is_package#opaque")), kE P "load_module" (199 : Nat) (Value.builtin ("_frozen_importlib.BuiltinImporter.load_module#opaque")), kE P "__static_attributes__" (200 : Nat) (Value.ref ((15 : Nat))), kE P "__dict__" (202 : Nat) (Value.ref ((16 : Nat))), kE P "__weakref__" (204 : Nat) (Value.ref ((17 : Nat)))]) ((14 : Nat))) (#[])
noncomputable def o14K (P : Params) : Obj := Obj.mk (Value.type ("type")) (@Option.none Nat) (Data.cls (ClassData.mk (Str.ofString ("BuiltinImporter")) ([Value.type ("object")]) ([Value.ref ((14 : Nat)), Value.type ("object")]) ((13 : Nat)) (Str.ofString ("BuiltinImporter")) (Bool.true) ([]) ([]) (Bool.false) (Option.none) (Bool.false))) (#[])
noncomputable def o15K (P : Params) : Obj := Obj.mk (Value.type ("getset_descriptor")) (@Option.none Nat) (Data.fields (#[Value.str (Str.ofString ("__dict__")) ((201 : Nat)), Value.ref ((14 : Nat)), Value.builtin ("function.__dict__"), Value.builtin ("function.__dict__#set")])) (#[])
noncomputable def o16K (P : Params) : Obj := Obj.mk (Value.type ("getset_descriptor")) (@Option.none Nat) (Data.fields (#[Value.str (Str.ofString ("__weakref__")) ((203 : Nat)), Value.ref ((14 : Nat)), Value.builtin ("ExceptionGroup.__weakref__"), Value.none])) (#[])
noncomputable def o17K (x1 x2 : Str) (P : Params) : Obj := Obj.mk (Value.none) (@Option.none Nat) (Data.seq (#[Value.int (13) ((0 : Nat)), Value.str (x1) ((0 : Nat)), Value.bool (Bool.true), Value.bool (Bool.true), Value.str (Str.ofString ("")) ((205 : Nat)), Value.int (21) ((0 : Nat)), Value.str (x2) ((0 : Nat)), Value.bool (Bool.true), Value.bool (Bool.true), Value.str (Str.ofString ("")) ((242 : Nat))]) ((1 : Nat))) (#[])
noncomputable def o18K (P : Params) : Obj := Obj.mk (Value.type ("list")) (@Option.none Nat) (Data.seq (#[]) ((0 : Nat))) (#[])
noncomputable def o19K (P : Params) : Obj := Obj.mk (Value.type ("dict")) (@Option.none Nat) (Data.dict (#[kE P "name" (208 : Nat) (Value.str (Str.ofString ("_sre")) ((207 : Nat))), kE P "loader" (209 : Nat) (Value.ref ((14 : Nat))), kE P "origin" (210 : Nat) (Value.str (Str.ofString ("built-in")) ((184 : Nat))), kE P "loader_state" (211 : Nat) (Value.none), kE P "submodule_search_locations" (212 : Nat) (Value.none), kE P "_uninitialized_submodules" (213 : Nat) (Value.ref ((19 : Nat))), kE P "_set_fileattr" (214 : Nat) (Value.bool (Bool.false)), kE P "_cached" (215 : Nat) (Value.none), kE P "_initializing" (243 : Nat) (Value.bool (Bool.false))]) ((9 : Nat))) (#[])
noncomputable def o20K (P : Params) : Obj := Obj.mk (Value.type ("dict")) (@Option.none Nat) (Data.dict (#[kE P "__module__" (227 : Nat) (Value.str (Str.ofString ("_frozen_importlib")) ((217 : Nat))), kE P "__firstlineno__" (228 : Nat) (Value.int (562) ((218 : Nat))), kE P "__doc__" (229 : Nat) (Value.builtin ("_frozen_importlib.ModuleSpec.__doc__:str#opaque")), kE P "__init__" (230 : Nat) (Value.builtin ("_frozen_importlib.ModuleSpec.__init__#opaque")), kE P "__repr__" (231 : Nat) (Value.builtin ("_frozen_importlib.ModuleSpec.__repr__#opaque")), kE P "__eq__" (232 : Nat) (Value.builtin ("_frozen_importlib.ModuleSpec.__eq__#opaque")), kE P "cached" (233 : Nat) (Value.builtin ("_frozen_importlib.ModuleSpec.cached#opaque")), kE P "parent" (234 : Nat) (Value.builtin ("_frozen_importlib.ModuleSpec.parent#opaque")), kE P "has_location" (235 : Nat) (Value.builtin ("_frozen_importlib.ModuleSpec.has_location#opaque")), kE P "__static_attributes__" (236 : Nat) (Value.ref ((23 : Nat))), kE P "__dict__" (238 : Nat) (Value.ref ((24 : Nat))), kE P "__weakref__" (240 : Nat) (Value.ref ((25 : Nat))), kE P "__hash__" (241 : Nat) (Value.none)]) ((13 : Nat))) (#[])
noncomputable def o21K (P : Params) : Obj := Obj.mk (Value.type ("type")) (@Option.none Nat) (Data.cls (ClassData.mk (Str.ofString ("ModuleSpec")) ([Value.type ("object")]) ([Value.ref ((22 : Nat)), Value.type ("object")]) ((21 : Nat)) (Str.ofString ("ModuleSpec")) (Bool.true) ([]) ([]) (Bool.false) (Option.none) (Bool.false))) (#[])
noncomputable def o22K (P : Params) : Obj := Obj.mk (Value.type ("tuple")) (@Option.none Nat) (Data.seq (#[Value.str (Str.ofString ("_cached")) ((219 : Nat)), Value.str (Str.ofString ("_set_fileattr")) ((220 : Nat)), Value.str (Str.ofString ("_uninitialized_submodules")) ((221 : Nat)), Value.str (Str.ofString ("loader")) ((222 : Nat)), Value.str (Str.ofString ("loader_state")) ((223 : Nat)), Value.str (Str.ofString ("name")) ((224 : Nat)), Value.str (Str.ofString ("origin")) ((225 : Nat)), Value.str (Str.ofString ("submodule_search_locations")) ((226 : Nat))]) ((0 : Nat))) (#[])
noncomputable def o23K (P : Params) : Obj := Obj.mk (Value.type ("getset_descriptor")) (@Option.none Nat) (Data.fields (#[Value.str (Str.ofString ("__dict__")) ((237 : Nat)), Value.ref ((22 : Nat)), Value.builtin ("function.__dict__"), Value.builtin ("function.__dict__#set")])) (#[])
noncomputable def o24K (P : Params) : Obj := Obj.mk (Value.type ("getset_descriptor")) (@Option.none Nat) (Data.fields (#[Value.str (Str.ofString ("__weakref__")) ((239 : Nat)), Value.ref ((22 : Nat)), Value.builtin ("ExceptionGroup.__weakref__"), Value.none])) (#[])
noncomputable def o25K (P : Params) : Obj := Obj.mk (Value.ref ((22 : Nat))) (Option.some ((20 : Nat))) (Data.plain) (#[])
noncomputable def o26K (P : Params) : Obj := Obj.mk (Value.none) (@Option.none Nat) (Data.seq (#[Value.int (11) ((0 : Nat)), Value.str (Str.mk ((List.toArray (((6 : Nat)) :: ((247 : Nat)) :: ((8 : Nat)) :: ((95 : Nat)) :: ((95 : Nat)) :: ((110 : Nat)) :: ((97 : Nat)) :: ((109 : Nat)) :: ((101 : Nat)) :: ((95 : Nat)) :: ((95 : Nat)) :: ((6 : Nat)) :: ((246 : Nat)) :: ((4 : Nat)) :: ((95 : Nat)) :: ((115 : Nat)) :: ((114 : Nat)) :: ((101 : Nat)) :: ((6 : Nat)) :: ((248 : Nat)) :: ((7 : Nat)) :: ((95 : Nat)) :: ((95 : Nat)) :: ((100 : Nat)) :: ((111 : Nat)) :: ((99 : Nat)) :: ((95 : Nat)) :: ((95 : Nat)) :: ((0 : Nat)) :: ((6 : Nat)) :: ((250 : Nat)) :: ((11 : Nat)) :: ((95 : Nat)) :: ((95 : Nat)) :: ((112 : Nat)) :: ((97 : Nat)) :: ((99 : Nat)) :: ((107 : Nat)) :: ((97 : Nat)) :: ((103 : Nat)) :: ((101 : Nat)) :: ((95 : Nat)) :: ((95 : Nat)) :: ((6 : Nat)) :: ((249 : Nat)) :: ((0 : Nat)) :: ((6 : Nat)) :: ((251 : Nat)) :: ((10 : Nat)) :: ((95 : Nat)) :: ((95 : Nat)) :: ((108 : Nat)) :: ((111 : Nat)) :: ((97 : Nat)) :: ((100 : Nat)) :: ((101 : Nat)) :: ((114 : Nat)) :: ((95 : Nat)) :: ((95 : Nat)) :: ((4 : Nat)) :: ((0 : Nat)) :: ((0 : Nat)) :: ((14 : Nat)) :: ((6 : Nat)) :: ((252 : Nat)) :: ((8 : Nat)) :: ((95 : Nat)) :: ((95 : Nat)) :: ((115 : Nat)) :: ((112 : Nat)) :: ((101 : Nat)) :: ((99 : Nat)) :: ((95 : Nat)) :: ((95 : Nat)) :: ((4 : Nat)) :: ((0 : Nat)) :: ((0 : Nat)) :: ((26 : Nat)) :: ((6 : Nat)) :: ((253 : Nat)) :: ((7 : Nat)) :: ((99 : Nat)) :: ((111 : Nat)) :: ((109 : Nat)) :: ((112 : Nat)) :: ((105 : Nat)) :: ((108 : Nat)) :: ((101 : Nat)) :: ((9 : Nat)) :: ((12 : Nat)) :: ((95 : Nat)) :: ((115 : Nat)) :: ((114 : Nat)) :: ((101 : Nat)) :: ((46 : Nat)) :: ((99 : Nat)) :: ((111 : Nat)) :: ((109 : Nat)) :: ((112 : Nat)) :: ((105 : Nat)) :: ((108 : Nat)) :: ((101 : Nat)) :: ((6 : Nat)) :: ((254 : Nat)) :: ((8 : Nat)) :: ((116 : Nat)) :: ((101 : Nat)) :: ((109 : Nat)) :: ((112 : Nat)) :: ((108 : Nat)) :: ((97 : Nat)) :: ((116 : Nat)) :: ((101 : Nat)) :: ((9 : Nat)) :: ((13 : Nat)) :: ((95 : Nat)) :: ((115 : Nat)) :: ((114 : Nat)) :: ((101 : Nat)) :: ((46 : Nat)) :: ((116 : Nat)) :: ((101 : Nat)) :: ((109 : Nat)) :: ((112 : Nat)) :: ((108 : Nat)) :: ((97 : Nat)) :: ((116 : Nat)) :: ((101 : Nat)) :: ((6 : Nat)) :: ((255 : Nat)) :: ((11 : Nat)) :: ((103 : Nat)) :: ((101 : Nat)) :: ((116 : Nat)) :: ((99 : Nat)) :: ((111 : Nat)) :: ((100 : Nat)) :: ((101 : Nat)) :: ((115 : Nat)) :: ((105 : Nat)) :: ((122 : Nat)) :: ((101 : Nat)) :: ((9 : Nat)) :: ((16 : Nat)) :: ((95 : Nat)) :: ((115 : Nat)) :: ((114 : Nat)) :: ((101 : Nat)) :: ((46 : Nat)) :: ((103 : Nat)) :: ((101 : Nat)) :: ((116 : Nat)) :: ((99 : Nat)) :: ((111 : Nat)) :: ((100 : Nat)) :: ((101 : Nat)) :: ((115 : Nat)) :: ((105 : Nat)) :: ((122 : Nat)) :: ((101 : Nat)) :: ((6 : Nat)) :: ((256 : Nat)) :: ((13 : Nat)) :: ((97 : Nat)) :: ((115 : Nat)) :: ((99 : Nat)) :: ((105 : Nat)) :: ((105 : Nat)) :: ((95 : Nat)) :: ((105 : Nat)) :: ((115 : Nat)) :: ((99 : Nat)) :: ((97 : Nat)) :: ((115 : Nat)) :: ((101 : Nat)) :: ((100 : Nat)) :: ((9 : Nat)) :: ((18 : Nat)) :: ((95 : Nat)) :: ((115 : Nat)) :: ((114 : Nat)) :: ((101 : Nat)) :: ((46 : Nat)) :: ((97 : Nat)) :: ((115 : Nat)) :: ((99 : Nat)) :: ((105 : Nat)) :: ((105 : Nat)) :: ((95 : Nat)) :: ((105 : Nat)) :: ((115 : Nat)) :: ((99 : Nat)) :: ((97 : Nat)) :: ((115 : Nat)) :: ((101 : Nat)) :: ((100 : Nat)) :: ((6 : Nat)) :: ((257 : Nat)) :: ((15 : Nat)) :: ((117 : Nat)) :: ((110 : Nat)) :: ((105 : Nat)) :: ((99 : Nat)) :: ((111 : Nat)) :: ((100 : Nat)) :: ((101 : Nat)) :: ((95 : Nat)) :: ((105 : Nat)) :: ((115 : Nat)) :: ((99 : Nat)) :: ((97 : Nat)) :: ((115 : Nat)) :: ((101 : Nat)) :: ((100 : Nat)) :: ((9 : Nat)) :: ((20 : Nat)) :: ((95 : Nat)) :: ((115 : Nat)) :: ((114 : Nat)) :: ((101 : Nat)) :: ((46 : Nat)) :: ((117 : Nat)) :: ((110 : Nat)) :: ((105 : Nat)) :: ((99 : Nat)) :: ((111 : Nat)) :: ((100 : Nat)) :: ((101 : Nat)) :: ((95 : Nat)) :: ((105 : Nat)) :: ((115 : Nat)) :: ((99 : Nat)) :: ((97 : Nat)) :: ((115 : Nat)) :: ((101 : Nat)) :: ((100 : Nat)) :: ((6 : Nat)) :: ((258 : Nat)) :: ((13 : Nat)) :: ((97 : Nat)) :: ((115 : Nat)) :: ((99 : Nat)) :: ((105 : Nat)) :: ((105 : Nat)) :: ((95 : Nat)) :: ((116 : Nat)) :: ((111 : Nat)) :: ((108 : Nat)) :: ((111 : Nat)) :: ((119 : Nat)) :: ((101 : Nat)) :: ((114 : Nat)) :: ((9 : Nat)) :: ((18 : Nat)) :: ((95 : Nat)) :: ((115 : Nat)) :: ((114 : Nat)) :: ((101 : Nat)) :: ((46 : Nat)) :: ((97 : Nat)) :: ((115 : Nat)) :: ((99 : Nat)) :: ((105 : Nat)) :: ((105 : Nat)) :: ((95 : Nat)) :: ((116 : Nat)) :: ((111 : Nat)) :: ((108 : Nat)) :: ((111 : Nat)) :: ((119 : Nat)) :: ((101 : Nat)) :: ((114 : Nat)) :: ((6 : Nat)) :: ((259 : Nat)) :: ((15 : Nat)) :: ((117 : Nat)) :: ((110 : Nat)) :: ((105 : Nat)) :: ((99 : Nat)) :: ((111 : Nat)) :: ((100 : Nat)) :: ((101 : Nat)) :: ((95 : Nat)) :: ((116 : Nat)) :: ((111 : Nat)) :: ((108 : Nat)) :: ((111 : Nat)) :: ((119 : Nat)) :: ((101 : Nat)) :: ((114 : Nat)) :: ((9 : Nat)) :: ((20 : Nat)) :: ((95 : Nat)) :: ((115 : Nat)) :: ((114 : Nat)) :: ((101 : Nat)) :: ((46 : Nat)) :: ((117 : Nat)) :: ((110 : Nat)) :: ((105 : Nat)) :: ((99 : Nat)) :: ((111 : Nat)) :: ((100 : Nat)) :: ((101 : Nat)) :: ((95 : Nat)) :: ((116 : Nat)) :: ((111 : Nat)) :: ((108 : Nat)) :: ((111 : Nat)) :: ((119 : Nat)) :: ((101 : Nat)) :: ((114 : Nat)) :: ((6 : Nat)) :: ((261 : Nat)) :: ((5 : Nat)) :: ((77 : Nat)) :: ((65 : Nat)) :: ((71 : Nat)) :: ((73 : Nat)) :: ((67 : Nat)) :: ((4 : Nat)) :: ((260 : Nat)) :: ((0 : Nat)) :: ((20230612 : Nat)) :: ((6 : Nat)) :: ((263 : Nat)) :: ((8 : Nat)) :: ((67 : Nat)) :: ((79 : Nat)) :: ((68 : Nat)) :: ((69 : Nat)) :: ((83 : Nat)) :: ((73 : Nat)) :: ((90 : Nat)) :: ((69 : Nat)) :: ((4 : Nat)) :: ((262 : Nat)) :: ((0 : Nat)) :: ((4 : Nat)) :: ((6 : Nat)) :: ((265 : Nat)) :: ((9 : Nat)) :: ((77 : Nat)) :: ((65 : Nat)) :: ((88 : Nat)) :: ((82 : Nat)) :: ((69 : Nat)) :: ((80 : Nat)) :: ((69 : Nat)) :: ((65 : Nat)) :: ((84 : Nat)) :: ((4 : Nat)) :: ((264 : Nat)) :: ((0 : Nat)) :: ((4294967295 : Nat)) :: ((6 : Nat)) :: ((267 : Nat)) :: ((9 : Nat)) :: ((77 : Nat)) :: ((65 : Nat)) :: ((88 : Nat)) :: ((71 : Nat)) :: ((82 : Nat)) :: ((79 : Nat)) :: ((85 : Nat)) :: ((80 : Nat)) :: ((83 : Nat)) :: ((4 : Nat)) :: ((266 : Nat)) :: ((0 : Nat)) :: ((1073741823 : Nat)) :: ((6 : Nat)) :: ((269 : Nat)) :: ((9 : Nat)) :: ((99 : Nat)) :: ((111 : Nat)) :: ((112 : Nat)) :: ((121 : Nat)) :: ((114 : Nat)) :: ((105 : Nat)) :: ((103 : Nat)) :: ((104 : Nat)) :: ((116 : Nat)) :: ((6 : Nat)) :: ((268 : Nat)) :: ((53 : Nat)) :: ((32 : Nat)) :: ((83 : Nat)) :: ((82 : Nat)) :: ((69 : Nat)) :: ((32 : Nat)) :: ((50 : Nat)) :: ((46 : Nat)) :: ((50 : Nat)) :: ((46 : Nat)) :: ((50 : Nat)) :: ((32 : Nat)) :: ((67 : Nat)) :: ((111 : Nat)) :: ((112 : Nat)) :: ((121 : Nat)) :: ((114 : Nat)) :: ((105 : Nat)) :: ((103 : Nat)) :: ((104 : Nat)) :: ((116 : Nat)) :: ((32 : Nat)) :: ((40 : Nat)) :: ((99 : Nat)) :: ((41 : Nat)) :: ((32 : Nat)) :: ((49 : Nat)) :: ((57 : Nat)) :: ((57 : Nat)) :: ((55 : Nat)) :: ((45 : Nat)) :: ((50 : Nat)) :: ((48 : Nat)) :: ((48 : Nat)) :: ((50 : Nat)) :: ((32 : Nat)) :: ((98 : Nat)) :: ((121 : Nat)) :: ((32 : Nat)) :: ((83 : Nat)) :: ((101 : Nat)) :: ((99 : Nat)) :: ((114 : Nat)) :: ((101 : Nat)) :: ((116 : Nat)) :: ((32 : Nat)) :: ((76 : Nat)) :: ((97 : Nat)) :: ((98 : Nat)) :: ((115 : Nat)) :: ((32 : Nat)) :: ((65 : Nat)) :: ((66 : Nat)) :: ((32 : Nat)) :: [])))) ((0 : Nat)), Value.bool (Bool.true), Value.bool (Bool.false), Value.str (Str.ofString ("_sre")) ((271 : Nat))]) ((0 : Nat))) (#[])
noncomputable def o27K (P : Params) : Obj := Obj.mk (Value.type ("dict")) (@Option.none Nat) (Data.dict ((List.toArray ((kE P "__name__" (247 : Nat) (Value.str (Str.ofString ("_sre")) ((246 : Nat)))) :: (kE P "__doc__" (248 : Nat) (Value.none)) :: (kE P "__package__" (250 : Nat) (Value.str (Str.ofString ("")) ((249 : Nat)))) :: (kE P "__loader__" (251 : Nat) (Value.builtin ("off-the-table:_sre.__loader__:shared#opaque"))) :: (kE P "__spec__" (252 : Nat) (Value.builtin ("off-the-table:_sre.__spec__:shared#opaque"))) :: (kE P "compile" (253 : Nat) (Value.builtin ("_sre.compile"))) :: (kE P "template" (254 : Nat) (Value.builtin ("off-the-table:_sre.template:shared#opaque"))) :: (kE P "getcodesize" (255 : Nat) (Value.builtin ("off-the-table:_sre.getcodesize:shared#opaque"))) :: (kE P "ascii_iscased" (256 : Nat) (Value.builtin ("off-the-table:_sre.ascii_iscased:shared#opaque"))) :: (kE P "unicode_iscased" (257 : Nat) (Value.builtin ("off-the-table:_sre.unicode_iscased:shared#opaque"))) :: (kE P "ascii_tolower" (258 : Nat) (Value.builtin ("off-the-table:_sre.ascii_tolower:shared#opaque"))) :: (kE P "unicode_tolower" (259 : Nat) (Value.builtin ("off-the-table:_sre.unicode_tolower:shared#opaque"))) :: (kE P "MAGIC" (261 : Nat) (Value.int (20230612) ((260 : Nat)))) :: (kE P "CODESIZE" (263 : Nat) (Value.int (4) ((262 : Nat)))) :: (kE P "MAXREPEAT" (265 : Nat) (Value.int (4294967295) ((264 : Nat)))) :: (kE P "MAXGROUPS" (267 : Nat) (Value.int (1073741823) ((266 : Nat)))) :: (kE P "copyright" (269 : Nat) (Value.str (Str.ofString (" SRE 2.2.2 Copyright (c) 1997-2002 by Secret Labs AB ")) ((268 : Nat)))) :: []))) ((17 : Nat))) (#[])
noncomputable def o28K (P : Params) : Obj := Obj.mk (Value.type ("code")) (@Option.none Nat) (Data.fields ((List.toArray ((Value.str (Str.ofString ("<module>")) ((277 : Nat))) :: (Value.str (Str.ofString ("<module>")) ((278 : Nat))) :: (Value.str (Str.ofString ("/claim/cut.py")) ((279 : Nat))) :: (Value.int (1) ((0 : Nat))) :: (Value.int (0) ((0 : Nat))) :: (Value.int (0) ((0 : Nat))) :: (Value.int (0) ((0 : Nat))) :: (Value.int (0) ((0 : Nat))) :: (Value.ref ((28 : Nat))) :: (Value.bool (Bool.false)) :: (Value.int (276) ((0 : Nat))) :: (Value.ref ((29 : Nat))) :: (Value.none) :: (Value.none) :: (Value.none) :: (Value.none) :: (Value.int (280) ((0 : Nat))) :: (Value.int (1) ((0 : Nat))) :: (Value.str (Str.ofString ("/claim/cut.py")) ((281 : Nat))) :: [])))) (#[])
noncomputable def o29K (P : Params) : Obj := Obj.mk (Value.type ("frame")) (@Option.none Nat) (Data.plain) (#[Option.some (Value.ref ((30 : Nat))), Option.some (Value.ref ((3 : Nat))), Option.some (Value.ref ((3 : Nat))), Option.none, Option.some (Value.str (Str.ofString ("__main__")) ((164 : Nat))), Option.none, Option.some (Value.ref ((0 : Nat)))])
noncomputable def o30K (P : Params) : Obj := Obj.mk (Value.none) (@Option.none Nat) (Data.dict (#[kE P "\x69mport.loaded._sre" (183 : Nat) (Value.bool (Bool.true)), kE P "class._frozen_importlib.BuiltinImporter" (185 : Nat) (Value.ref ((14 : Nat))), kE P "watched.\x69mport" (206 : Nat) (Value.ref ((18 : Nat))), kE P "class._frozen_importlib.ModuleSpec" (216 : Nat) (Value.ref ((22 : Nat))), kE P "sys.modules.booked-epoch" (245 : Nat) (Value.int (3) ((0 : Nat))), kE P "\x69mport.later-laid._sre" (270 : Nat) (Value.bool (Bool.true)), kE P "watched.library" (272 : Nat) (Value.ref ((27 : Nat))), kE P "watched.library-objects" (0 : Nat) (Value.str (Str.ofString ("\x0c")) ((0 : Nat))), kE P "watched.library-deep._sre" (273 : Nat) (Value.str (Str.ofString ("\x04\x00\x00\x0b\x04\x00\x00\x0b\x04\x00\x00\x03\x04\x00\x00\x0b\x08\x04dict\x02")) ((0 : Nat))), kE P "type.__subclasses__.Exception.0" (307 : Nat) (Value.int (48) ((0 : Nat))), kE P "type.__subclasses__.Exception.n" (308 : Nat) (Value.int (1) ((0 : Nat)))]) ((11 : Nat))) (#[])
noncomputable def o31K (P : Params) : Obj := Obj.mk (Value.type ("dict")) (@Option.none Nat) (Data.dict (#[kE P "__name__" (165 : Nat) (Value.str (Str.ofString ("cpy313.ftplib")) ((289 : Nat))), kE P "__doc__" (166 : Nat) (Value.none), kE P "__package__" (167 : Nat) (Value.none), kE P "__loader__" (168 : Nat) (Value.builtin ("__main__.__loader__#opaque")), kE P "__spec__" (169 : Nat) (Value.none), kE P "__annotations__" (170 : Nat) (Value.ref ((6 : Nat))), kE P "__builtins__" (171 : Nat) (Value.ref ((4 : Nat))), kE P "__file__" (173 : Nat) (Value.str (Str.ofString ("/claim/cut.py")) ((172 : Nat))), kE P "__cached__" (174 : Nat) (Value.none), kE P "_sre" (275 : Nat) (Value.ref ((12 : Nat))), kE P "_wall" (288 : Nat) (Value.ref ((38 : Nat))), kE P "Error" (310 : Nat) (Value.ref ((48 : Nat)))]) ((12 : Nat))) (#[])
noncomputable def o32K (P : Params) : Obj := Obj.mk (Value.none) (@Option.none Nat) (Data.fields (#[Value.int (2) ((0 : Nat)), Value.int (0) ((0 : Nat)), Value.ref ((37 : Nat)), Value.int (6) ((0 : Nat)), Value.int (0) ((0 : Nat)), Value.ref ((44 : Nat))])) (#[])
noncomputable def o33K (P : Params) : Obj := Obj.mk (Value.type ("tuple")) (@Option.none Nat) (Data.seq (#[Value.str (Str.ofString ("k")) ((285 : Nat))]) ((0 : Nat))) (#[])
noncomputable def o34K (P : Params) : Obj := Obj.mk (Value.none) (@Option.none Nat) (Data.func (FuncData.mk (Str.ofString ("_wall")) (Str.ofString ("_wall")) f1p (FuncBody.stmts f1b) f1s ((0 : Nat)) (@List.nil (Str × Nat)) (Value.none) (Value.none) (Value.none) (Value.none) (@Option.none Nat) (Value.none) (Value.none) ((0 : Nat)))) (#[])
noncomputable def o35K (P : Params) : Obj := Obj.mk (Value.type ("code")) (@Option.none Nat) (Data.fields ((List.toArray ((Value.str (Str.ofString ("_wall")) ((282 : Nat))) :: (Value.str (Str.ofString ("_wall")) ((283 : Nat))) :: (Value.str (Str.ofString ("/claim/cut.py")) ((284 : Nat))) :: (Value.int (2) ((0 : Nat))) :: (Value.int (1) ((0 : Nat))) :: (Value.int (0) ((0 : Nat))) :: (Value.int (0) ((0 : Nat))) :: (Value.int (3) ((0 : Nat))) :: (Value.ref ((32 : Nat))) :: (Value.bool (Bool.true)) :: (Value.int (276) ((0 : Nat))) :: (Value.ref ((33 : Nat))) :: (Value.none) :: (Value.ref ((34 : Nat))) :: (Value.ref ((35 : Nat))) :: (Value.ref ((36 : Nat))) :: (Value.int (286) ((0 : Nat))) :: (Value.int (2) ((0 : Nat))) :: (Value.str (Str.ofString ("/claim/cut.py")) ((287 : Nat))) :: [])))) (#[])
noncomputable def o36K (P : Params) : Obj := Obj.mk (Value.type ("function")) (@Option.none Nat) (Data.func (FuncData.mk (Str.ofString ("_wall")) (Str.ofString ("_wall")) f1p (FuncBody.stmts f1b) f1s ((3 : Nat)) (@List.nil (Str × Nat)) (Value.none) (Value.none) (Value.none) (Value.str (Str.ofString ("__main__")) ((164 : Nat))) (@Option.none Nat) (Value.ref ((37 : Nat))) (Value.none) ((0 : Nat)))) (#[])
noncomputable def o37K (P : Params) : Obj := Obj.mk (Value.type ("tuple")) (@Option.none Nat) (Data.seq (#[Value.type ("Exception")]) ((0 : Nat))) (#[])
noncomputable def o38K (P : Params) : Obj := Obj.mk (Value.type ("builtin_function_or_method")) (@Option.none Nat) (Data.fields (#[Value.builtin ("type.__prepare__"), Value.type ("type")])) (#[])
noncomputable def o39K (P : Params) : Obj := Obj.mk (Value.type ("dict")) (@Option.none Nat) (Data.dict (#[kE P "__module__" (298 : Nat) (Value.str (Str.ofString ("cpy313.ftplib")) ((289 : Nat))), kE P "__qualname__" (300 : Nat) (Value.str (Str.ofString ("Error")) ((299 : Nat))), kE P "__firstlineno__" (302 : Nat) (Value.int (6) ((301 : Nat))), kE P "__static_attributes__" (303 : Nat) (Value.ref ((46 : Nat)))]) ((4 : Nat))) (#[])
noncomputable def o40K (P : Params) : Obj := Obj.mk (Value.type ("code")) (@Option.none Nat) (Data.fields ((List.toArray ((Value.str (Str.ofString ("Error")) ((293 : Nat))) :: (Value.str (Str.ofString ("Error")) ((294 : Nat))) :: (Value.str (Str.ofString ("/claim/cut.py")) ((295 : Nat))) :: (Value.int (6) ((0 : Nat))) :: (Value.int (0) ((0 : Nat))) :: (Value.int (0) ((0 : Nat))) :: (Value.int (0) ((0 : Nat))) :: (Value.int (0) ((0 : Nat))) :: (Value.ref ((42 : Nat))) :: (Value.bool (Bool.false)) :: (Value.int (276) ((0 : Nat))) :: (Value.ref ((43 : Nat))) :: (Value.none) :: (Value.none) :: (Value.none) :: (Value.none) :: (Value.int (296) ((0 : Nat))) :: (Value.int (6) ((0 : Nat))) :: (Value.str (Str.ofString ("/claim/cut.py")) ((297 : Nat))) :: [])))) (#[])
noncomputable def o41K (P : Params) : Obj := Obj.mk (Value.type ("frame")) (@Option.none Nat) (Data.plain) (#[Option.some (Value.ref ((44 : Nat))), Option.some (Value.ref ((3 : Nat))), Option.some (Value.ref ((41 : Nat))), Option.none, Option.some (Value.str (Str.ofString ("cpy313.ftplib")) ((289 : Nat))), Option.none, Option.some (Value.ref ((0 : Nat)))])
noncomputable def o42K (P : Params) : Obj := Obj.mk (Value.type ("dict")) (@Option.none Nat) (Data.dict (#[kE P "__module__" (298 : Nat) (Value.str (Str.ofString ("cpy313.ftplib")) ((289 : Nat))), kE P "__firstlineno__" (302 : Nat) (Value.int (6) ((301 : Nat))), kE P "__static_attributes__" (303 : Nat) (Value.ref ((46 : Nat))), kE P "__weakref__" (305 : Nat) (Value.ref ((49 : Nat))), kE P "__doc__" (306 : Nat) (Value.none)]) ((3 : Nat))) (#[])
noncomputable def o43K (P : Params) : Obj := Obj.mk (Value.type ("type")) (@Option.none Nat) (Data.cls (ClassData.mk (Str.ofString ("Error")) ([Value.type ("Exception")]) ([Value.ref ((48 : Nat)), Value.type ("Exception"), Value.type ("BaseException"), Value.type ("object")]) ((47 : Nat)) (Str.ofString ("Error")) (Bool.true) ([]) ([]) (Bool.false) (Option.none) (Bool.false))) (#[Option.some (Value.ref ((39 : Nat))), Option.none, Option.some (Value.str (Str.ofString ("Error")) ((291 : Nat))), Option.some (Value.str (Str.ofString ("Error")) ((299 : Nat))), Option.some (Value.builtin ("Exception.__new__")), Option.some (Value.bool (Bool.true))])
noncomputable def o44K (P : Params) : Obj := Obj.mk (Value.type ("getset_descriptor")) (@Option.none Nat) (Data.fields (#[Value.str (Str.ofString ("__weakref__")) ((304 : Nat)), Value.ref ((48 : Nat)), Value.builtin ("ExceptionGroup.__weakref__"), Value.none])) (#[])
noncomputable def o45K (P : Params) : Obj := Obj.mk (Value.type ("super")) (@Option.none Nat) (Data.fields (#[Value.ref ((48 : Nat)), Value.ref ((48 : Nat)), Value.ref ((48 : Nat))])) (#[])
noncomputable def o46K (P : Params) : Obj := Obj.mk (Value.type ("builtin_function_or_method")) (@Option.none Nat) (Data.fields (#[Value.builtin ("object.__init_subclass__"), Value.ref ((48 : Nat))])) (#[])
noncomputable def o47K (P : Params) : Obj := Obj.mk (Value.type ("dict")) (@Option.none Nat) (Data.dict (#[kE P "__name__" (165 : Nat) (Value.str (Str.ofString ("cpy313.wsgiref.headers")) ((367 : Nat))), kE P "__doc__" (166 : Nat) (Value.none), kE P "__package__" (167 : Nat) (Value.none), kE P "__loader__" (168 : Nat) (Value.builtin ("__main__.__loader__#opaque")), kE P "__spec__" (169 : Nat) (Value.none), kE P "__annotations__" (170 : Nat) (Value.ref ((6 : Nat))), kE P "__builtins__" (171 : Nat) (Value.ref ((4 : Nat))), kE P "__file__" (173 : Nat) (Value.str (Str.ofString ("/claim/cut.py")) ((172 : Nat))), kE P "__cached__" (174 : Nat) (Value.none), kE P "_sre" (275 : Nat) (Value.ref ((12 : Nat))), kE P "_wall" (288 : Nat) (Value.ref ((38 : Nat))), kE P "Error" (310 : Nat) (Value.ref ((48 : Nat))), kE P "error_reply" (326 : Nat) (Value.ref ((61 : Nat))), kE P "parse257" (337 : Nat) (Value.ref ((70 : Nat))), kE P "insort_right" (352 : Nat) (Value.ref ((79 : Nat))), kE P "bisect_right" (366 : Nat) (Value.ref ((88 : Nat)))]) ((16 : Nat))) (#[])
noncomputable def o48K (P : Params) : Obj := Obj.mk (Value.none) (@Option.none Nat) (Data.fields ((List.toArray ((Value.int (2) ((0 : Nat))) :: (Value.int (0) ((0 : Nat))) :: (Value.ref ((37 : Nat))) :: (Value.int (6) ((0 : Nat))) :: (Value.int (0) ((0 : Nat))) :: (Value.ref ((44 : Nat))) :: (Value.int (8) ((0 : Nat))) :: (Value.int (0) ((0 : Nat))) :: (Value.ref ((57 : Nat))) :: (Value.int (10) ((0 : Nat))) :: (Value.int (0) ((0 : Nat))) :: (Value.ref ((69 : Nat))) :: (Value.int (28) ((0 : Nat))) :: (Value.int (0) ((0 : Nat))) :: (Value.ref ((78 : Nat))) :: (Value.int (34) ((0 : Nat))) :: (Value.int (0) ((0 : Nat))) :: (Value.ref ((87 : Nat))) :: [])))) (#[])
noncomputable def o49K (P : Params) : Obj := Obj.mk (Value.type ("type")) (@Option.none Nat) (Data.cls (ClassData.mk (Str.ofString ("Error")) ([Value.type ("Exception")]) ([Value.ref ((48 : Nat)), Value.type ("Exception"), Value.type ("BaseException"), Value.type ("object")]) ((47 : Nat)) (Str.ofString ("Error")) (Bool.true) ([]) ([Value.ref ((61 : Nat))]) (Bool.false) (Option.none) (Bool.false))) (#[Option.some (Value.ref ((39 : Nat))), Option.none, Option.some (Value.str (Str.ofString ("Error")) ((291 : Nat))), Option.some (Value.str (Str.ofString ("Error")) ((299 : Nat))), Option.some (Value.builtin ("Exception.__new__")), Option.some (Value.bool (Bool.true))])
noncomputable def o50K (P : Params) : Obj := Obj.mk (Value.type ("tuple")) (@Option.none Nat) (Data.seq (#[Value.ref ((48 : Nat))]) ((0 : Nat))) (#[])
noncomputable def o51K (P : Params) : Obj := Obj.mk (Value.type ("dict")) (@Option.none Nat) (Data.dict (#[kE P "__module__" (318 : Nat) (Value.str (Str.ofString ("cpy313.ftplib")) ((289 : Nat))), kE P "__qualname__" (320 : Nat) (Value.str (Str.ofString ("error_reply")) ((319 : Nat))), kE P "__firstlineno__" (322 : Nat) (Value.int (8) ((321 : Nat))), kE P "__static_attributes__" (323 : Nat) (Value.ref ((59 : Nat)))]) ((4 : Nat))) (#[])
noncomputable def o52K (P : Params) : Obj := Obj.mk (Value.type ("code")) (@Option.none Nat) (Data.fields ((List.toArray ((Value.str (Str.ofString ("error_reply")) ((313 : Nat))) :: (Value.str (Str.ofString ("error_reply")) ((314 : Nat))) :: (Value.str (Str.ofString ("/claim/cut.py")) ((315 : Nat))) :: (Value.int (8) ((0 : Nat))) :: (Value.int (0) ((0 : Nat))) :: (Value.int (0) ((0 : Nat))) :: (Value.int (0) ((0 : Nat))) :: (Value.int (0) ((0 : Nat))) :: (Value.ref ((55 : Nat))) :: (Value.bool (Bool.false)) :: (Value.int (276) ((0 : Nat))) :: (Value.ref ((56 : Nat))) :: (Value.none) :: (Value.none) :: (Value.none) :: (Value.none) :: (Value.int (316) ((0 : Nat))) :: (Value.int (8) ((0 : Nat))) :: (Value.str (Str.ofString ("/claim/cut.py")) ((317 : Nat))) :: [])))) (#[])
noncomputable def o53K (P : Params) : Obj := Obj.mk (Value.type ("frame")) (@Option.none Nat) (Data.plain) (#[Option.some (Value.ref ((57 : Nat))), Option.some (Value.ref ((3 : Nat))), Option.some (Value.ref ((54 : Nat))), Option.none, Option.some (Value.str (Str.ofString ("cpy313.ftplib")) ((289 : Nat))), Option.none, Option.some (Value.ref ((0 : Nat)))])
noncomputable def o54K (P : Params) : Obj := Obj.mk (Value.type ("dict")) (@Option.none Nat) (Data.dict (#[kE P "__module__" (318 : Nat) (Value.str (Str.ofString ("cpy313.ftplib")) ((289 : Nat))), kE P "__firstlineno__" (322 : Nat) (Value.int (8) ((321 : Nat))), kE P "__static_attributes__" (323 : Nat) (Value.ref ((59 : Nat))), kE P "__doc__" (324 : Nat) (Value.none)]) ((2 : Nat))) (#[])
noncomputable def o55K (P : Params) : Obj := Obj.mk (Value.type ("type")) (@Option.none Nat) (Data.cls (ClassData.mk (Str.ofString ("error_reply")) ([Value.ref ((48 : Nat))]) ([Value.ref ((61 : Nat)), Value.ref ((48 : Nat)), Value.type ("Exception"), Value.type ("BaseException"), Value.type ("object")]) ((60 : Nat)) (Str.ofString ("error_reply")) (Bool.true) ([]) ([]) (Bool.false) (Option.none) (Bool.false))) (#[Option.some (Value.ref ((52 : Nat))), Option.none, Option.some (Value.str (Str.ofString ("error_reply")) ((311 : Nat))), Option.some (Value.str (Str.ofString ("error_reply")) ((319 : Nat))), Option.some (Value.builtin ("Exception.__new__")), Option.some (Value.bool (Bool.true))])
noncomputable def o56K (P : Params) : Obj := Obj.mk (Value.type ("super")) (@Option.none Nat) (Data.fields (#[Value.ref ((61 : Nat)), Value.ref ((61 : Nat)), Value.ref ((61 : Nat))])) (#[])
noncomputable def o57K (P : Params) : Obj := Obj.mk (Value.type ("builtin_function_or_method")) (@Option.none Nat) (Data.fields (#[Value.builtin ("object.__init_subclass__"), Value.ref ((61 : Nat))])) (#[])
noncomputable def o58K (P : Params) : Obj := Obj.mk (Value.type ("tuple")) (@Option.none Nat) (Data.seq (#[Value.str (Str.ofString ("resp")) ((330 : Nat)), Value.str (Str.ofString ("dirname")) ((331 : Nat)), Value.str (Str.ofString ("i")) ((332 : Nat)), Value.str (Str.ofString ("n")) ((333 : Nat)), Value.str (Str.ofString ("c")) ((334 : Nat))]) ((0 : Nat))) (#[])
noncomputable def o59K (P : Params) : Obj := Obj.mk (Value.none) (@Option.none Nat) (Data.func (FuncData.mk (Str.ofString ("parse257")) (Str.ofString ("parse257")) f5p (FuncBody.stmts f5b) f5s ((0 : Nat)) (@List.nil (Str × Nat)) (Value.none) (Value.none) (Value.none) (Value.none) (@Option.none Nat) (Value.none) (Value.none) ((0 : Nat)))) (#[])
noncomputable def o60K (P : Params) : Obj := Obj.mk (Value.type ("code")) (@Option.none Nat) (Data.fields ((List.toArray ((Value.str (Str.ofString ("parse257")) ((327 : Nat))) :: (Value.str (Str.ofString ("parse257")) ((328 : Nat))) :: (Value.str (Str.ofString ("/claim/cut.py")) ((329 : Nat))) :: (Value.int (10) ((0 : Nat))) :: (Value.int (1) ((0 : Nat))) :: (Value.int (0) ((0 : Nat))) :: (Value.int (0) ((0 : Nat))) :: (Value.int (3) ((0 : Nat))) :: (Value.ref ((64 : Nat))) :: (Value.bool (Bool.true)) :: (Value.int (276) ((0 : Nat))) :: (Value.ref ((65 : Nat))) :: (Value.none) :: (Value.ref ((66 : Nat))) :: (Value.ref ((67 : Nat))) :: (Value.ref ((68 : Nat))) :: (Value.int (335) ((0 : Nat))) :: (Value.int (10) ((0 : Nat))) :: (Value.str (Str.ofString ("/claim/cut.py")) ((336 : Nat))) :: [])))) (#[])
noncomputable def o61K (P : Params) : Obj := Obj.mk (Value.type ("function")) (@Option.none Nat) (Data.func (FuncData.mk (Str.ofString ("parse257")) (Str.ofString ("parse257")) f5p (FuncBody.stmts f5b) f5s ((3 : Nat)) (@List.nil (Str × Nat)) (Value.none) (Value.none) (Value.none) (Value.str (Str.ofString ("cpy313.ftplib")) ((289 : Nat))) (@Option.none Nat) (Value.ref ((69 : Nat))) (Value.none) ((0 : Nat)))) (#[])
noncomputable def o62K (P : Params) : Obj := Obj.mk (Value.type ("tuple")) (@Option.none Nat) (Data.seq (#[Value.int (0) ((340 : Nat)), Value.none]) ((0 : Nat))) (#[])
noncomputable def o63K (P : Params) : Obj := Obj.mk (Value.type ("dict")) (@Option.none Nat) (Data.dict (#[kE P "key" (341 : Nat) (Value.none)]) ((1 : Nat))) (#[])
noncomputable def o64K (P : Params) : Obj := Obj.mk (Value.type ("tuple")) (@Option.none Nat) (Data.seq (#[Value.str (Str.ofString ("a")) ((345 : Nat)), Value.str (Str.ofString ("x")) ((346 : Nat)), Value.str (Str.ofString ("lo")) ((347 : Nat)), Value.str (Str.ofString ("hi")) ((348 : Nat)), Value.str (Str.ofString ("key")) ((349 : Nat))]) ((0 : Nat))) (#[])
noncomputable def o65K (P : Params) : Obj := Obj.mk (Value.none) (@Option.none Nat) (Data.func (FuncData.mk (Str.ofString ("insort_right")) (Str.ofString ("insort_right")) f7p (FuncBody.stmts f7b) f7s ((0 : Nat)) (@List.nil (Str × Nat)) (Value.none) (Value.none) (Value.none) (Value.none) (@Option.none Nat) (Value.none) (Value.none) ((0 : Nat)))) (#[])
noncomputable def o66K (P : Params) : Obj := Obj.mk (Value.type ("code")) (@Option.none Nat) (Data.fields ((List.toArray ((Value.str (Str.ofString ("insort_right")) ((342 : Nat))) :: (Value.str (Str.ofString ("insort_right")) ((343 : Nat))) :: (Value.str (Str.ofString ("/claim/cut.py")) ((344 : Nat))) :: (Value.int (28) ((0 : Nat))) :: (Value.int (4) ((0 : Nat))) :: (Value.int (0) ((0 : Nat))) :: (Value.int (1) ((0 : Nat))) :: (Value.int (3) ((0 : Nat))) :: (Value.ref ((73 : Nat))) :: (Value.bool (Bool.true)) :: (Value.int (276) ((0 : Nat))) :: (Value.ref ((74 : Nat))) :: (Value.none) :: (Value.ref ((75 : Nat))) :: (Value.ref ((76 : Nat))) :: (Value.ref ((77 : Nat))) :: (Value.int (350) ((0 : Nat))) :: (Value.int (28) ((0 : Nat))) :: (Value.str (Str.ofString ("/claim/cut.py")) ((351 : Nat))) :: [])))) (#[])
noncomputable def o67K (P : Params) : Obj := Obj.mk (Value.type ("function")) (@Option.none Nat) (Data.func (FuncData.mk (Str.ofString ("insort_right")) (Str.ofString ("insort_right")) f7p (FuncBody.stmts f7b) f7s ((3 : Nat)) (@List.nil (Str × Nat)) (Value.ref ((71 : Nat))) (Value.ref ((72 : Nat))) (Value.none) (Value.str (Str.ofString ("cpy313.bisect")) ((338 : Nat))) (@Option.none Nat) (Value.ref ((78 : Nat))) (Value.none) ((0 : Nat)))) (#[])
noncomputable def o68K (P : Params) : Obj := Obj.mk (Value.type ("tuple")) (@Option.none Nat) (Data.seq (#[Value.int (0) ((353 : Nat)), Value.none]) ((0 : Nat))) (#[])
noncomputable def o69K (P : Params) : Obj := Obj.mk (Value.type ("dict")) (@Option.none Nat) (Data.dict (#[kE P "key" (354 : Nat) (Value.none)]) ((1 : Nat))) (#[])
noncomputable def o70K (P : Params) : Obj := Obj.mk (Value.type ("tuple")) (@Option.none Nat) (Data.seq (#[Value.str (Str.ofString ("a")) ((358 : Nat)), Value.str (Str.ofString ("x")) ((359 : Nat)), Value.str (Str.ofString ("lo")) ((360 : Nat)), Value.str (Str.ofString ("hi")) ((361 : Nat)), Value.str (Str.ofString ("key")) ((362 : Nat)), Value.str (Str.ofString ("mid")) ((363 : Nat))]) ((0 : Nat))) (#[])
noncomputable def o71K (P : Params) : Obj := Obj.mk (Value.none) (@Option.none Nat) (Data.func (FuncData.mk (Str.ofString ("bisect_right")) (Str.ofString ("bisect_right")) f8p (FuncBody.stmts f8b) f8s ((0 : Nat)) (@List.nil (Str × Nat)) (Value.none) (Value.none) (Value.none) (Value.none) (@Option.none Nat) (Value.none) (Value.none) ((0 : Nat)))) (#[])
noncomputable def o72K (P : Params) : Obj := Obj.mk (Value.type ("code")) (@Option.none Nat) (Data.fields ((List.toArray ((Value.str (Str.ofString ("bisect_right")) ((355 : Nat))) :: (Value.str (Str.ofString ("bisect_right")) ((356 : Nat))) :: (Value.str (Str.ofString ("/claim/cut.py")) ((357 : Nat))) :: (Value.int (34) ((0 : Nat))) :: (Value.int (4) ((0 : Nat))) :: (Value.int (0) ((0 : Nat))) :: (Value.int (1) ((0 : Nat))) :: (Value.int (3) ((0 : Nat))) :: (Value.ref ((82 : Nat))) :: (Value.bool (Bool.true)) :: (Value.int (276) ((0 : Nat))) :: (Value.ref ((83 : Nat))) :: (Value.none) :: (Value.ref ((84 : Nat))) :: (Value.ref ((85 : Nat))) :: (Value.ref ((86 : Nat))) :: (Value.int (364) ((0 : Nat))) :: (Value.int (34) ((0 : Nat))) :: (Value.str (Str.ofString ("/claim/cut.py")) ((365 : Nat))) :: [])))) (#[])
noncomputable def o73K (P : Params) : Obj := Obj.mk (Value.type ("function")) (@Option.none Nat) (Data.func (FuncData.mk (Str.ofString ("bisect_right")) (Str.ofString ("bisect_right")) f8p (FuncBody.stmts f8b) f8s ((3 : Nat)) (@List.nil (Str × Nat)) (Value.ref ((80 : Nat))) (Value.ref ((81 : Nat))) (Value.none) (Value.str (Str.ofString ("cpy313.bisect")) ((338 : Nat))) (@Option.none Nat) (Value.ref ((87 : Nat))) (Value.none) ((0 : Nat)))) (#[])
noncomputable def o74K (P : Params) : Obj := Obj.mk (Value.type ("dict")) (@Option.none Nat) (Data.dict ((List.toArray ((kE P "__name__" (165 : Nat) (Value.str (Str.ofString ("cpy313.wsgiref.headers")) ((367 : Nat)))) :: (kE P "__doc__" (166 : Nat) (Value.none)) :: (kE P "__package__" (167 : Nat) (Value.none)) :: (kE P "__loader__" (168 : Nat) (Value.builtin ("__main__.__loader__#opaque"))) :: (kE P "__spec__" (169 : Nat) (Value.none)) :: (kE P "__annotations__" (170 : Nat) (Value.ref ((6 : Nat)))) :: (kE P "__builtins__" (171 : Nat) (Value.ref ((4 : Nat)))) :: (kE P "__file__" (173 : Nat) (Value.str (Str.ofString ("/claim/cut.py")) ((172 : Nat)))) :: (kE P "__cached__" (174 : Nat) (Value.none)) :: (kE P "_sre" (275 : Nat) (Value.ref ((12 : Nat)))) :: (kE P "_wall" (288 : Nat) (Value.ref ((38 : Nat)))) :: (kE P "Error" (310 : Nat) (Value.ref ((48 : Nat)))) :: (kE P "error_reply" (326 : Nat) (Value.ref ((61 : Nat)))) :: (kE P "parse257" (337 : Nat) (Value.ref ((70 : Nat)))) :: (kE P "insort_right" (352 : Nat) (Value.ref ((79 : Nat)))) :: (kE P "bisect_right" (366 : Nat) (Value.ref ((88 : Nat)))) :: (kE P "tspecials" (402 : Nat) (Value.ref ((93 : Nat)))) :: (kE P "_name_disallowed_re" (428 : Nat) (Value.ref ((98 : Nat)))) :: (kE P "_value_disallowed_re" (462 : Nat) (Value.ref ((103 : Nat)))) :: (kE P "_formatparam" (472 : Nat) (Value.ref ((111 : Nat)))) :: []))) ((20 : Nat))) (#[])
noncomputable def o75K (P : Params) : Obj := Obj.mk (Value.none) (@Option.none Nat) (Data.fields ((List.toArray ((Value.int (2) ((0 : Nat))) :: (Value.int (0) ((0 : Nat))) :: (Value.ref ((37 : Nat))) :: (Value.int (6) ((0 : Nat))) :: (Value.int (0) ((0 : Nat))) :: (Value.ref ((44 : Nat))) :: (Value.int (8) ((0 : Nat))) :: (Value.int (0) ((0 : Nat))) :: (Value.ref ((57 : Nat))) :: (Value.int (10) ((0 : Nat))) :: (Value.int (0) ((0 : Nat))) :: (Value.ref ((69 : Nat))) :: (Value.int (28) ((0 : Nat))) :: (Value.int (0) ((0 : Nat))) :: (Value.ref ((78 : Nat))) :: (Value.int (34) ((0 : Nat))) :: (Value.int (0) ((0 : Nat))) :: (Value.ref ((87 : Nat))) :: (Value.int (58) ((0 : Nat))) :: (Value.int (0) ((0 : Nat))) :: (Value.ref ((110 : Nat))) :: [])))) (#[])
noncomputable def o76K (P : Params) : Obj := Obj.mk (Value.type ("list")) (@Option.none Nat) (Data.seq ((List.toArray ((Value.int (14) ((372 : Nat))) :: (Value.int (14) ((373 : Nat))) :: (Value.int (4) ((374 : Nat))) :: (Value.int (1) ((375 : Nat))) :: (Value.int (1) ((376 : Nat))) :: (Value.int (9) ((377 : Nat))) :: (Value.int (0) ((378 : Nat))) :: (Value.int (4227896069) ((379 : Nat))) :: (Value.int (939524097) ((380 : Nat))) :: (Value.int (0) ((381 : Nat))) :: (Value.int (0) ((382 : Nat))) :: (Value.int (0) ((383 : Nat))) :: (Value.int (0) ((384 : Nat))) :: (Value.int (0) ((385 : Nat))) :: (Value.int (0) ((386 : Nat))) :: (Value.int (13) ((387 : Nat))) :: (Value.int (11) ((388 : Nat))) :: (Value.int (9) ((389 : Nat))) :: (Value.int (0) ((390 : Nat))) :: (Value.int (4227896069) ((391 : Nat))) :: (Value.int (939524097) ((392 : Nat))) :: (Value.int (0) ((393 : Nat))) :: (Value.int (0) ((394 : Nat))) :: (Value.int (0) ((395 : Nat))) :: (Value.int (0) ((396 : Nat))) :: (Value.int (0) ((397 : Nat))) :: (Value.int (0) ((398 : Nat))) :: (Value.int (1) ((399 : Nat))) :: []))) ((0 : Nat))) (#[])
noncomputable def o77K (P : Params) : Obj := Obj.mk (Value.type ("tuple")) (@Option.none Nat) (Data.seq (#[Value.none]) ((0 : Nat))) (#[])
noncomputable def o78K (P : Params) : Obj := Obj.mk (Value.type ("tuple")) (@Option.none Nat) (Data.seq ((List.toArray ((Value.int (14) ((0 : Nat))) :: (Value.int (14) ((0 : Nat))) :: (Value.int (4) ((0 : Nat))) :: (Value.int (1) ((0 : Nat))) :: (Value.int (1) ((0 : Nat))) :: (Value.int (9) ((0 : Nat))) :: (Value.int (0) ((0 : Nat))) :: (Value.int (4227896069) ((0 : Nat))) :: (Value.int (939524097) ((0 : Nat))) :: (Value.int (0) ((0 : Nat))) :: (Value.int (0) ((0 : Nat))) :: (Value.int (0) ((0 : Nat))) :: (Value.int (0) ((0 : Nat))) :: (Value.int (0) ((0 : Nat))) :: (Value.int (0) ((0 : Nat))) :: (Value.int (13) ((0 : Nat))) :: (Value.int (11) ((0 : Nat))) :: (Value.int (9) ((0 : Nat))) :: (Value.int (0) ((0 : Nat))) :: (Value.int (4227896069) ((0 : Nat))) :: (Value.int (939524097) ((0 : Nat))) :: (Value.int (0) ((0 : Nat))) :: (Value.int (0) ((0 : Nat))) :: (Value.int (0) ((0 : Nat))) :: (Value.int (0) ((0 : Nat))) :: (Value.int (0) ((0 : Nat))) :: (Value.int (0) ((0 : Nat))) :: (Value.int (1) ((0 : Nat))) :: []))) ((0 : Nat))) (#[])
noncomputable def o79K (P : Params) : Obj := Obj.mk (Value.type ("re.Pattern")) (@Option.none Nat) (Data.fields (#[Value.str (Str.ofString ("[ \\(\\)<>@,;:\\\\\"/\\[\\]\\?=]")) ((370 : Nat)), Value.int (32) ((401 : Nat)), Value.int (0) ((0 : Nat)), Value.none, Value.none, Value.ref ((92 : Nat)), Value.int (0) ((0 : Nat))])) (#[])
noncomputable def o80K (P : Params) : Obj := Obj.mk (Value.type ("list")) (@Option.none Nat) (Data.seq ((List.toArray ((Value.int (14) ((406 : Nat))) :: (Value.int (10) ((407 : Nat))) :: (Value.int (4) ((408 : Nat))) :: (Value.int (1) ((409 : Nat))) :: (Value.int (1) ((410 : Nat))) :: (Value.int (22) ((411 : Nat))) :: (Value.int (0) ((412 : Nat))) :: (Value.int (31) ((413 : Nat))) :: (Value.int (16) ((414 : Nat))) :: (Value.int (127) ((415 : Nat))) :: (Value.int (0) ((416 : Nat))) :: (Value.int (13) ((417 : Nat))) :: (Value.int (7) ((418 : Nat))) :: (Value.int (22) ((419 : Nat))) :: (Value.int (0) ((420 : Nat))) :: (Value.int (31) ((421 : Nat))) :: (Value.int (16) ((422 : Nat))) :: (Value.int (127) ((423 : Nat))) :: (Value.int (0) ((424 : Nat))) :: (Value.int (1) ((425 : Nat))) :: []))) ((0 : Nat))) (#[])
noncomputable def o81K (P : Params) : Obj := Obj.mk (Value.type ("tuple")) (@Option.none Nat) (Data.seq ((List.toArray ((Value.int (14) ((0 : Nat))) :: (Value.int (10) ((0 : Nat))) :: (Value.int (4) ((0 : Nat))) :: (Value.int (1) ((0 : Nat))) :: (Value.int (1) ((0 : Nat))) :: (Value.int (22) ((0 : Nat))) :: (Value.int (0) ((0 : Nat))) :: (Value.int (31) ((0 : Nat))) :: (Value.int (16) ((0 : Nat))) :: (Value.int (127) ((0 : Nat))) :: (Value.int (0) ((0 : Nat))) :: (Value.int (13) ((0 : Nat))) :: (Value.int (7) ((0 : Nat))) :: (Value.int (22) ((0 : Nat))) :: (Value.int (0) ((0 : Nat))) :: (Value.int (31) ((0 : Nat))) :: (Value.int (16) ((0 : Nat))) :: (Value.int (127) ((0 : Nat))) :: (Value.int (0) ((0 : Nat))) :: (Value.int (1) ((0 : Nat))) :: []))) ((0 : Nat))) (#[])
noncomputable def o82K (P : Params) : Obj := Obj.mk (Value.type ("re.Pattern")) (@Option.none Nat) (Data.fields (#[Value.str (Str.ofString ("[\\x00-\\x1F\\x7F]")) ((404 : Nat)), Value.int (32) ((427 : Nat)), Value.int (0) ((0 : Nat)), Value.none, Value.none, Value.ref ((97 : Nat)), Value.int (0) ((0 : Nat))])) (#[])
noncomputable def o83K (P : Params) : Obj := Obj.mk (Value.type ("list")) (@Option.none Nat) (Data.seq ((List.toArray ((Value.int (14) ((432 : Nat))) :: (Value.int (14) ((433 : Nat))) :: (Value.int (4) ((434 : Nat))) :: (Value.int (1) ((435 : Nat))) :: (Value.int (1) ((436 : Nat))) :: (Value.int (9) ((437 : Nat))) :: (Value.int (4294966783) ((438 : Nat))) :: (Value.int (0) ((439 : Nat))) :: (Value.int (0) ((440 : Nat))) :: (Value.int (2147483648) ((441 : Nat))) :: (Value.int (0) ((442 : Nat))) :: (Value.int (0) ((443 : Nat))) :: (Value.int (0) ((444 : Nat))) :: (Value.int (0) ((445 : Nat))) :: (Value.int (0) ((446 : Nat))) :: (Value.int (13) ((447 : Nat))) :: (Value.int (11) ((448 : Nat))) :: (Value.int (9) ((449 : Nat))) :: (Value.int (4294966783) ((450 : Nat))) :: (Value.int (0) ((451 : Nat))) :: (Value.int (0) ((452 : Nat))) :: (Value.int (2147483648) ((453 : Nat))) :: (Value.int (0) ((454 : Nat))) :: (Value.int (0) ((455 : Nat))) :: (Value.int (0) ((456 : Nat))) :: (Value.int (0) ((457 : Nat))) :: (Value.int (0) ((458 : Nat))) :: (Value.int (1) ((459 : Nat))) :: []))) ((0 : Nat))) (#[])
noncomputable def o84K (P : Params) : Obj := Obj.mk (Value.type ("tuple")) (@Option.none Nat) (Data.seq ((List.toArray ((Value.int (14) ((0 : Nat))) :: (Value.int (14) ((0 : Nat))) :: (Value.int (4) ((0 : Nat))) :: (Value.int (1) ((0 : Nat))) :: (Value.int (1) ((0 : Nat))) :: (Value.int (9) ((0 : Nat))) :: (Value.int (4294966783) ((0 : Nat))) :: (Value.int (0) ((0 : Nat))) :: (Value.int (0) ((0 : Nat))) :: (Value.int (2147483648) ((0 : Nat))) :: (Value.int (0) ((0 : Nat))) :: (Value.int (0) ((0 : Nat))) :: (Value.int (0) ((0 : Nat))) :: (Value.int (0) ((0 : Nat))) :: (Value.int (0) ((0 : Nat))) :: (Value.int (13) ((0 : Nat))) :: (Value.int (11) ((0 : Nat))) :: (Value.int (9) ((0 : Nat))) :: (Value.int (4294966783) ((0 : Nat))) :: (Value.int (0) ((0 : Nat))) :: (Value.int (0) ((0 : Nat))) :: (Value.int (2147483648) ((0 : Nat))) :: (Value.int (0) ((0 : Nat))) :: (Value.int (0) ((0 : Nat))) :: (Value.int (0) ((0 : Nat))) :: (Value.int (0) ((0 : Nat))) :: (Value.int (0) ((0 : Nat))) :: (Value.int (1) ((0 : Nat))) :: []))) ((0 : Nat))) (#[])
noncomputable def o85K (P : Params) : Obj := Obj.mk (Value.type ("re.Pattern")) (@Option.none Nat) (Data.fields (#[Value.str (Str.ofString ("[\\x00-\\x08\\x0A-\\x1F\\x7F]")) ((430 : Nat)), Value.int (32) ((461 : Nat)), Value.int (0) ((0 : Nat)), Value.none, Value.none, Value.ref ((102 : Nat)), Value.int (0) ((0 : Nat))])) (#[])
noncomputable def o86K (P : Params) : Obj := Obj.mk (Value.type ("tuple")) (@Option.none Nat) (Data.seq (#[Value.none, Value.int (1) ((463 : Nat))]) ((0 : Nat))) (#[])
noncomputable def o87K (P : Params) : Obj := Obj.mk (Value.type ("tuple")) (@Option.none Nat) (Data.seq (#[Value.str (Str.ofString ("param")) ((467 : Nat)), Value.str (Str.ofString ("value")) ((468 : Nat)), Value.str (Str.ofString ("quote")) ((469 : Nat))]) ((0 : Nat))) (#[])
noncomputable def o88K (P : Params) : Obj := Obj.mk (Value.none) (@Option.none Nat) (Data.func (FuncData.mk (Str.ofString ("_formatparam")) (Str.ofString ("_formatparam")) f13p (FuncBody.stmts f13b) f13s ((0 : Nat)) (@List.nil (Str × Nat)) (Value.none) (Value.none) (Value.none) (Value.none) (@Option.none Nat) (Value.none) (Value.none) ((0 : Nat)))) (#[])
noncomputable def o89K (P : Params) : Obj := Obj.mk (Value.type ("code")) (@Option.none Nat) (Data.fields ((List.toArray ((Value.str (Str.ofString ("_formatparam")) ((464 : Nat))) :: (Value.str (Str.ofString ("_formatparam")) ((465 : Nat))) :: (Value.str (Str.ofString ("/claim/cut.py")) ((466 : Nat))) :: (Value.int (58) ((0 : Nat))) :: (Value.int (3) ((0 : Nat))) :: (Value.int (0) ((0 : Nat))) :: (Value.int (0) ((0 : Nat))) :: (Value.int (3) ((0 : Nat))) :: (Value.ref ((105 : Nat))) :: (Value.bool (Bool.true)) :: (Value.int (276) ((0 : Nat))) :: (Value.ref ((106 : Nat))) :: (Value.none) :: (Value.ref ((107 : Nat))) :: (Value.ref ((108 : Nat))) :: (Value.ref ((109 : Nat))) :: (Value.int (470) ((0 : Nat))) :: (Value.int (58) ((0 : Nat))) :: (Value.str (Str.ofString ("/claim/cut.py")) ((471 : Nat))) :: [])))) (#[])
noncomputable def o90K (P : Params) : Obj := Obj.mk (Value.type ("function")) (@Option.none Nat) (Data.func (FuncData.mk (Str.ofString ("_formatparam")) (Str.ofString ("_formatparam")) f13p (FuncBody.stmts f13b) f13s ((3 : Nat)) (@List.nil (Str × Nat)) (Value.ref ((104 : Nat))) (Value.none) (Value.none) (Value.str (Str.ofString ("cpy313.wsgiref.headers")) ((367 : Nat))) (@Option.none Nat) (Value.ref ((110 : Nat))) (Value.none) ((0 : Nat)))) (#[])
noncomputable def o91K (P : Params) : Obj := Obj.mk (Value.type ("dict")) (@Option.none Nat) (Data.dict ((List.toArray ((kE P "__name__" (165 : Nat) (Value.str (Str.ofString ("cpy313.wsgiref.headers")) ((367 : Nat)))) :: (kE P "__doc__" (166 : Nat) (Value.none)) :: (kE P "__package__" (167 : Nat) (Value.none)) :: (kE P "__loader__" (168 : Nat) (Value.builtin ("__main__.__loader__#opaque"))) :: (kE P "__spec__" (169 : Nat) (Value.none)) :: (kE P "__annotations__" (170 : Nat) (Value.ref ((6 : Nat)))) :: (kE P "__builtins__" (171 : Nat) (Value.ref ((4 : Nat)))) :: (kE P "__file__" (173 : Nat) (Value.str (Str.ofString ("/claim/cut.py")) ((172 : Nat)))) :: (kE P "__cached__" (174 : Nat) (Value.none)) :: (kE P "_sre" (275 : Nat) (Value.ref ((12 : Nat)))) :: (kE P "_wall" (288 : Nat) (Value.ref ((38 : Nat)))) :: (kE P "Error" (310 : Nat) (Value.ref ((48 : Nat)))) :: (kE P "error_reply" (326 : Nat) (Value.ref ((61 : Nat)))) :: (kE P "parse257" (337 : Nat) (Value.ref ((70 : Nat)))) :: (kE P "insort_right" (352 : Nat) (Value.ref ((79 : Nat)))) :: (kE P "bisect_right" (366 : Nat) (Value.ref ((88 : Nat)))) :: (kE P "tspecials" (402 : Nat) (Value.ref ((93 : Nat)))) :: (kE P "_name_disallowed_re" (428 : Nat) (Value.ref ((98 : Nat)))) :: (kE P "_value_disallowed_re" (462 : Nat) (Value.ref ((103 : Nat)))) :: (kE P "_formatparam" (472 : Nat) (Value.ref ((111 : Nat)))) :: (kE P "Headers" (629 : Nat) (Value.ref ((232 : Nat)))) :: []))) ((21 : Nat))) (#[])
noncomputable def o92K (P : Params) : Obj := Obj.mk (Value.none) (@Option.none Nat) (Data.fields ((List.toArray ((Value.int (2) ((0 : Nat))) :: (Value.int (0) ((0 : Nat))) :: (Value.ref ((37 : Nat))) :: (Value.int (6) ((0 : Nat))) :: (Value.int (0) ((0 : Nat))) :: (Value.ref ((44 : Nat))) :: (Value.int (8) ((0 : Nat))) :: (Value.int (0) ((0 : Nat))) :: (Value.ref ((57 : Nat))) :: (Value.int (10) ((0 : Nat))) :: (Value.int (0) ((0 : Nat))) :: (Value.ref ((69 : Nat))) :: (Value.int (28) ((0 : Nat))) :: (Value.int (0) ((0 : Nat))) :: (Value.ref ((78 : Nat))) :: (Value.int (34) ((0 : Nat))) :: (Value.int (0) ((0 : Nat))) :: (Value.ref ((87 : Nat))) :: (Value.int (58) ((0 : Nat))) :: (Value.int (0) ((0 : Nat))) :: (Value.ref ((110 : Nat))) :: (Value.int (67) ((0 : Nat))) :: (Value.int (0) ((0 : Nat))) :: (Value.ref ((117 : Nat))) :: [])))) (#[])
noncomputable def o93K (P : Params) : Obj := Obj.mk (Value.type ("dict")) (@Option.none Nat) (Data.dict ((List.toArray ((kE P "__module__" (480 : Nat) (Value.str (Str.ofString ("cpy313.wsgiref.headers")) ((367 : Nat)))) :: (kE P "__qualname__" (482 : Nat) (Value.str (Str.ofString ("Headers")) ((481 : Nat)))) :: (kE P "__firstlineno__" (484 : Nat) (Value.int (67) ((483 : Nat)))) :: (kE P "__init__" (494 : Nat) (Value.ref ((126 : Nat)))) :: (kE P "_convert_string_type" (504 : Nat) (Value.ref ((133 : Nat)))) :: (kE P "__len__" (511 : Nat) (Value.ref ((140 : Nat)))) :: (kE P "__setitem__" (520 : Nat) (Value.ref ((147 : Nat)))) :: (kE P "__delitem__" (526 : Nat) (Value.ref ((152 : Nat)))) :: (kE P "__getitem__" (534 : Nat) (Value.ref ((159 : Nat)))) :: (kE P "__contains__" (542 : Nat) (Value.ref ((166 : Nat)))) :: (kE P "get_all" (548 : Nat) (Value.ref ((171 : Nat)))) :: (kE P "get" (559 : Nat) (Value.ref ((179 : Nat)))) :: (kE P "keys" (565 : Nat) (Value.ref ((184 : Nat)))) :: (kE P "values" (571 : Nat) (Value.ref ((189 : Nat)))) :: (kE P "items" (578 : Nat) (Value.ref ((196 : Nat)))) :: (kE P "__repr__" (585 : Nat) (Value.ref ((203 : Nat)))) :: (kE P "__str__" (591 : Nat) (Value.ref ((208 : Nat)))) :: (kE P "__bytes__" (598 : Nat) (Value.ref ((215 : Nat)))) :: (kE P "setdefault" (607 : Nat) (Value.ref ((222 : Nat)))) :: (kE P "add_header" (620 : Nat) (Value.ref ((229 : Nat)))) :: (kE P "__static_attributes__" (622 : Nat) (Value.ref ((230 : Nat)))) :: []))) ((21 : Nat))) (#[])
noncomputable def o94K (P : Params) : Obj := Obj.mk (Value.none) (@Option.none Nat) (Data.fields ((List.toArray ((Value.int (69) ((0 : Nat))) :: (Value.int (4) ((0 : Nat))) :: (Value.ref ((125 : Nat))) :: (Value.int (79) ((0 : Nat))) :: (Value.int (4) ((0 : Nat))) :: (Value.ref ((132 : Nat))) :: (Value.int (87) ((0 : Nat))) :: (Value.int (4) ((0 : Nat))) :: (Value.ref ((139 : Nat))) :: (Value.int (90) ((0 : Nat))) :: (Value.int (4) ((0 : Nat))) :: (Value.ref ((146 : Nat))) :: (Value.int (94) ((0 : Nat))) :: (Value.int (4) ((0 : Nat))) :: (Value.ref ((151 : Nat))) :: (Value.int (98) ((0 : Nat))) :: (Value.int (4) ((0 : Nat))) :: (Value.ref ((158 : Nat))) :: (Value.int (101) ((0 : Nat))) :: (Value.int (4) ((0 : Nat))) :: (Value.ref ((165 : Nat))) :: (Value.int (104) ((0 : Nat))) :: (Value.int (4) ((0 : Nat))) :: (Value.ref ((170 : Nat))) :: (Value.int (108) ((0 : Nat))) :: (Value.int (4) ((0 : Nat))) :: (Value.ref ((178 : Nat))) :: (Value.int (115) ((0 : Nat))) :: (Value.int (4) ((0 : Nat))) :: (Value.ref ((183 : Nat))) :: (Value.int (118) ((0 : Nat))) :: (Value.int (4) ((0 : Nat))) :: (Value.ref ((188 : Nat))) :: (Value.int (121) ((0 : Nat))) :: (Value.int (4) ((0 : Nat))) :: (Value.ref ((195 : Nat))) :: (Value.int (124) ((0 : Nat))) :: (Value.int (4) ((0 : Nat))) :: (Value.ref ((202 : Nat))) :: (Value.int (127) ((0 : Nat))) :: (Value.int (4) ((0 : Nat))) :: (Value.ref ((207 : Nat))) :: (Value.int (130) ((0 : Nat))) :: (Value.int (4) ((0 : Nat))) :: (Value.ref ((214 : Nat))) :: (Value.int (133) ((0 : Nat))) :: (Value.int (4) ((0 : Nat))) :: (Value.ref ((221 : Nat))) :: (Value.int (136) ((0 : Nat))) :: (Value.int (4) ((0 : Nat))) :: (Value.ref ((228 : Nat))) :: [])))) (#[])
noncomputable def o95K (P : Params) : Obj := Obj.mk (Value.type ("code")) (@Option.none Nat) (Data.fields ((List.toArray ((Value.str (Str.ofString ("Headers")) ((475 : Nat))) :: (Value.str (Str.ofString ("Headers")) ((476 : Nat))) :: (Value.str (Str.ofString ("/claim/cut.py")) ((477 : Nat))) :: (Value.int (67) ((0 : Nat))) :: (Value.int (0) ((0 : Nat))) :: (Value.int (0) ((0 : Nat))) :: (Value.int (0) ((0 : Nat))) :: (Value.int (0) ((0 : Nat))) :: (Value.ref ((115 : Nat))) :: (Value.bool (Bool.false)) :: (Value.int (276) ((0 : Nat))) :: (Value.ref ((116 : Nat))) :: (Value.none) :: (Value.none) :: (Value.none) :: (Value.none) :: (Value.int (478) ((0 : Nat))) :: (Value.int (67) ((0 : Nat))) :: (Value.str (Str.ofString ("/claim/cut.py")) ((479 : Nat))) :: [])))) (#[])
noncomputable def o96K (P : Params) : Obj := Obj.mk (Value.type ("frame")) (@Option.none Nat) (Data.plain) (#[Option.some (Value.ref ((117 : Nat))), Option.some (Value.ref ((3 : Nat))), Option.some (Value.ref ((114 : Nat))), Option.none, Option.some (Value.str (Str.ofString ("cpy313.wsgiref.headers")) ((367 : Nat))), Option.none, Option.some (Value.ref ((0 : Nat)))])
noncomputable def o97K (P : Params) : Obj := Obj.mk (Value.type ("tuple")) (@Option.none Nat) (Data.seq (#[Value.str (Str.ofString ("self")) ((488 : Nat)), Value.str (Str.ofString ("headers")) ((489 : Nat)), Value.str (Str.ofString ("k")) ((490 : Nat)), Value.str (Str.ofString ("v")) ((491 : Nat))]) ((0 : Nat))) (#[])
noncomputable def o98K (P : Params) : Obj := Obj.mk (Value.none) (@Option.none Nat) (Data.func (FuncData.mk (Str.ofString ("__init__")) (Str.ofString ("Headers.__init__")) m14x0p (FuncBody.stmts m14x0b) m14x0s ((0 : Nat)) (@List.nil (Str × Nat)) (Value.none) (Value.none) (Value.none) (Value.none) (@Option.none Nat) (Value.none) (Value.none) ((0 : Nat)))) (#[])
noncomputable def o99K (P : Params) : Obj := Obj.mk (Value.type ("code")) (@Option.none Nat) (Data.fields ((List.toArray ((Value.str (Str.ofString ("__init__")) ((485 : Nat))) :: (Value.str (Str.ofString ("Headers.__init__")) ((486 : Nat))) :: (Value.str (Str.ofString ("/claim/cut.py")) ((487 : Nat))) :: (Value.int (69) ((0 : Nat))) :: (Value.int (2) ((0 : Nat))) :: (Value.int (0) ((0 : Nat))) :: (Value.int (0) ((0 : Nat))) :: (Value.int (3) ((0 : Nat))) :: (Value.ref ((120 : Nat))) :: (Value.bool (Bool.true)) :: (Value.int (276) ((0 : Nat))) :: (Value.ref ((121 : Nat))) :: (Value.none) :: (Value.ref ((122 : Nat))) :: (Value.ref ((123 : Nat))) :: (Value.ref ((124 : Nat))) :: (Value.int (492) ((0 : Nat))) :: (Value.int (69) ((0 : Nat))) :: (Value.str (Str.ofString ("/claim/cut.py")) ((493 : Nat))) :: [])))) (#[])
noncomputable def o100K (P : Params) : Obj := Obj.mk (Value.type ("function")) (@Option.none Nat) (Data.func (FuncData.mk (Str.ofString ("__init__")) (Str.ofString ("Headers.__init__")) m14x0p (FuncBody.stmts m14x0b) m14x0s ((3 : Nat)) (@List.nil (Str × Nat)) (Value.ref ((119 : Nat))) (Value.none) (Value.none) (Value.str (Str.ofString ("cpy313.wsgiref.headers")) ((367 : Nat))) (@Option.none Nat) (Value.ref ((125 : Nat))) (Value.none) ((0 : Nat)))) (#[])
noncomputable def o101K (P : Params) : Obj := Obj.mk (Value.type ("tuple")) (@Option.none Nat) (Data.seq (#[Value.str (Str.ofString ("self")) ((498 : Nat)), Value.str (Str.ofString ("value")) ((499 : Nat)), Value.str (Str.ofString ("name")) ((500 : Nat)), Value.str (Str.ofString ("regex")) ((501 : Nat))]) ((0 : Nat))) (#[])
noncomputable def o102K (P : Params) : Obj := Obj.mk (Value.none) (@Option.none Nat) (Data.func (FuncData.mk (Str.ofString ("_convert_string_type")) (Str.ofString ("Headers._convert_string_type")) m14x1p (FuncBody.stmts m14x1b) m14x1s ((0 : Nat)) (@List.nil (Str × Nat)) (Value.none) (Value.none) (Value.none) (Value.none) (@Option.none Nat) (Value.none) (Value.none) ((0 : Nat)))) (#[])
noncomputable def o103K (P : Params) : Obj := Obj.mk (Value.type ("code")) (@Option.none Nat) (Data.fields ((List.toArray ((Value.str (Str.ofString ("_convert_string_type")) ((495 : Nat))) :: (Value.str (Str.ofString ("Headers._convert_string_type")) ((496 : Nat))) :: (Value.str (Str.ofString ("/claim/cut.py")) ((497 : Nat))) :: (Value.int (79) ((0 : Nat))) :: (Value.int (2) ((0 : Nat))) :: (Value.int (0) ((0 : Nat))) :: (Value.int (1) ((0 : Nat))) :: (Value.int (3) ((0 : Nat))) :: (Value.ref ((127 : Nat))) :: (Value.bool (Bool.true)) :: (Value.int (276) ((0 : Nat))) :: (Value.ref ((128 : Nat))) :: (Value.none) :: (Value.ref ((129 : Nat))) :: (Value.ref ((130 : Nat))) :: (Value.ref ((131 : Nat))) :: (Value.int (502) ((0 : Nat))) :: (Value.int (79) ((0 : Nat))) :: (Value.str (Str.ofString ("/claim/cut.py")) ((503 : Nat))) :: [])))) (#[])
noncomputable def o104K (P : Params) : Obj := Obj.mk (Value.type ("function")) (@Option.none Nat) (Data.func (FuncData.mk (Str.ofString ("_convert_string_type")) (Str.ofString ("Headers._convert_string_type")) m14x1p (FuncBody.stmts m14x1b) m14x1s ((3 : Nat)) (@List.nil (Str × Nat)) (Value.none) (Value.none) (Value.none) (Value.str (Str.ofString ("cpy313.wsgiref.headers")) ((367 : Nat))) (@Option.none Nat) (Value.ref ((132 : Nat))) (Value.none) ((0 : Nat)))) (#[])
noncomputable def o105K (P : Params) : Obj := Obj.mk (Value.type ("tuple")) (@Option.none Nat) (Data.seq (#[Value.str (Str.ofString ("self")) ((508 : Nat))]) ((0 : Nat))) (#[])
noncomputable def o106K (P : Params) : Obj := Obj.mk (Value.none) (@Option.none Nat) (Data.func (FuncData.mk (Str.ofString ("__len__")) (Str.ofString ("Headers.__len__")) m14x2p (FuncBody.stmts m14x2b) m14x2s ((0 : Nat)) (@List.nil (Str × Nat)) (Value.none) (Value.none) (Value.none) (Value.none) (@Option.none Nat) (Value.none) (Value.none) ((0 : Nat)))) (#[])
noncomputable def o107K (P : Params) : Obj := Obj.mk (Value.type ("code")) (@Option.none Nat) (Data.fields ((List.toArray ((Value.str (Str.ofString ("__len__")) ((505 : Nat))) :: (Value.str (Str.ofString ("Headers.__len__")) ((506 : Nat))) :: (Value.str (Str.ofString ("/claim/cut.py")) ((507 : Nat))) :: (Value.int (87) ((0 : Nat))) :: (Value.int (1) ((0 : Nat))) :: (Value.int (0) ((0 : Nat))) :: (Value.int (0) ((0 : Nat))) :: (Value.int (3) ((0 : Nat))) :: (Value.ref ((134 : Nat))) :: (Value.bool (Bool.true)) :: (Value.int (276) ((0 : Nat))) :: (Value.ref ((135 : Nat))) :: (Value.none) :: (Value.ref ((136 : Nat))) :: (Value.ref ((137 : Nat))) :: (Value.ref ((138 : Nat))) :: (Value.int (509) ((0 : Nat))) :: (Value.int (87) ((0 : Nat))) :: (Value.str (Str.ofString ("/claim/cut.py")) ((510 : Nat))) :: [])))) (#[])
noncomputable def o108K (P : Params) : Obj := Obj.mk (Value.type ("function")) (@Option.none Nat) (Data.func (FuncData.mk (Str.ofString ("__len__")) (Str.ofString ("Headers.__len__")) m14x2p (FuncBody.stmts m14x2b) m14x2s ((3 : Nat)) (@List.nil (Str × Nat)) (Value.none) (Value.none) (Value.none) (Value.str (Str.ofString ("cpy313.wsgiref.headers")) ((367 : Nat))) (@Option.none Nat) (Value.ref ((139 : Nat))) (Value.none) ((0 : Nat)))) (#[])
noncomputable def o109K (P : Params) : Obj := Obj.mk (Value.type ("tuple")) (@Option.none Nat) (Data.seq (#[Value.str (Str.ofString ("self")) ((515 : Nat)), Value.str (Str.ofString ("name")) ((516 : Nat)), Value.str (Str.ofString ("val")) ((517 : Nat))]) ((0 : Nat))) (#[])
noncomputable def o110K (P : Params) : Obj := Obj.mk (Value.none) (@Option.none Nat) (Data.func (FuncData.mk (Str.ofString ("__setitem__")) (Str.ofString ("Headers.__setitem__")) m14x3p (FuncBody.stmts m14x3b) m14x3s ((0 : Nat)) (@List.nil (Str × Nat)) (Value.none) (Value.none) (Value.none) (Value.none) (@Option.none Nat) (Value.none) (Value.none) ((0 : Nat)))) (#[])
noncomputable def o111K (P : Params) : Obj := Obj.mk (Value.type ("code")) (@Option.none Nat) (Data.fields ((List.toArray ((Value.str (Str.ofString ("__setitem__")) ((512 : Nat))) :: (Value.str (Str.ofString ("Headers.__setitem__")) ((513 : Nat))) :: (Value.str (Str.ofString ("/claim/cut.py")) ((514 : Nat))) :: (Value.int (90) ((0 : Nat))) :: (Value.int (3) ((0 : Nat))) :: (Value.int (0) ((0 : Nat))) :: (Value.int (0) ((0 : Nat))) :: (Value.int (3) ((0 : Nat))) :: (Value.ref ((141 : Nat))) :: (Value.bool (Bool.true)) :: (Value.int (276) ((0 : Nat))) :: (Value.ref ((142 : Nat))) :: (Value.none) :: (Value.ref ((143 : Nat))) :: (Value.ref ((144 : Nat))) :: (Value.ref ((145 : Nat))) :: (Value.int (518) ((0 : Nat))) :: (Value.int (90) ((0 : Nat))) :: (Value.str (Str.ofString ("/claim/cut.py")) ((519 : Nat))) :: [])))) (#[])
noncomputable def o112K (P : Params) : Obj := Obj.mk (Value.type ("function")) (@Option.none Nat) (Data.func (FuncData.mk (Str.ofString ("__setitem__")) (Str.ofString ("Headers.__setitem__")) m14x3p (FuncBody.stmts m14x3b) m14x3s ((3 : Nat)) (@List.nil (Str × Nat)) (Value.none) (Value.none) (Value.none) (Value.str (Str.ofString ("cpy313.wsgiref.headers")) ((367 : Nat))) (@Option.none Nat) (Value.ref ((146 : Nat))) (Value.none) ((0 : Nat)))) (#[])
noncomputable def o113K (P : Params) : Obj := Obj.mk (Value.none) (@Option.none Nat) (Data.func (FuncData.mk (Str.ofString ("__delitem__")) (Str.ofString ("Headers.__delitem__")) m14x4p (FuncBody.stmts m14x4b) m14x4s ((0 : Nat)) (@List.nil (Str × Nat)) (Value.none) (Value.none) (Value.none) (Value.none) (@Option.none Nat) (Value.none) (Value.none) ((0 : Nat)))) (#[])
noncomputable def o114K (P : Params) : Obj := Obj.mk (Value.type ("code")) (@Option.none Nat) (Data.fields ((List.toArray ((Value.str (Str.ofString ("__delitem__")) ((521 : Nat))) :: (Value.str (Str.ofString ("Headers.__delitem__")) ((522 : Nat))) :: (Value.str (Str.ofString ("/claim/cut.py")) ((523 : Nat))) :: (Value.int (94) ((0 : Nat))) :: (Value.int (2) ((0 : Nat))) :: (Value.int (0) ((0 : Nat))) :: (Value.int (0) ((0 : Nat))) :: (Value.int (3) ((0 : Nat))) :: (Value.ref ((148 : Nat))) :: (Value.bool (Bool.true)) :: (Value.int (276) ((0 : Nat))) :: (Value.ref ((149 : Nat))) :: (Value.none) :: (Value.none) :: (Value.none) :: (Value.ref ((150 : Nat))) :: (Value.int (524) ((0 : Nat))) :: (Value.int (94) ((0 : Nat))) :: (Value.str (Str.ofString ("/claim/cut.py")) ((525 : Nat))) :: [])))) (#[])
noncomputable def o115K (P : Params) : Obj := Obj.mk (Value.type ("function")) (@Option.none Nat) (Data.func (FuncData.mk (Str.ofString ("__delitem__")) (Str.ofString ("Headers.__delitem__")) m14x4p (FuncBody.stmts m14x4b) m14x4s ((3 : Nat)) (@List.nil (Str × Nat)) (Value.none) (Value.none) (Value.none) (Value.str (Str.ofString ("cpy313.wsgiref.headers")) ((367 : Nat))) (@Option.none Nat) (Value.ref ((151 : Nat))) (Value.none) ((0 : Nat)))) (#[])
noncomputable def o116K (P : Params) : Obj := Obj.mk (Value.type ("tuple")) (@Option.none Nat) (Data.seq (#[Value.str (Str.ofString ("self")) ((530 : Nat)), Value.str (Str.ofString ("name")) ((531 : Nat))]) ((0 : Nat))) (#[])
noncomputable def o117K (P : Params) : Obj := Obj.mk (Value.none) (@Option.none Nat) (Data.func (FuncData.mk (Str.ofString ("__getitem__")) (Str.ofString ("Headers.__getitem__")) m14x5p (FuncBody.stmts m14x5b) m14x5s ((0 : Nat)) (@List.nil (Str × Nat)) (Value.none) (Value.none) (Value.none) (Value.none) (@Option.none Nat) (Value.none) (Value.none) ((0 : Nat)))) (#[])
noncomputable def o118K (P : Params) : Obj := Obj.mk (Value.type ("code")) (@Option.none Nat) (Data.fields ((List.toArray ((Value.str (Str.ofString ("__getitem__")) ((527 : Nat))) :: (Value.str (Str.ofString ("Headers.__getitem__")) ((528 : Nat))) :: (Value.str (Str.ofString ("/claim/cut.py")) ((529 : Nat))) :: (Value.int (98) ((0 : Nat))) :: (Value.int (2) ((0 : Nat))) :: (Value.int (0) ((0 : Nat))) :: (Value.int (0) ((0 : Nat))) :: (Value.int (3) ((0 : Nat))) :: (Value.ref ((153 : Nat))) :: (Value.bool (Bool.true)) :: (Value.int (276) ((0 : Nat))) :: (Value.ref ((154 : Nat))) :: (Value.none) :: (Value.ref ((155 : Nat))) :: (Value.ref ((156 : Nat))) :: (Value.ref ((157 : Nat))) :: (Value.int (532) ((0 : Nat))) :: (Value.int (98) ((0 : Nat))) :: (Value.str (Str.ofString ("/claim/cut.py")) ((533 : Nat))) :: [])))) (#[])
noncomputable def o119K (P : Params) : Obj := Obj.mk (Value.type ("function")) (@Option.none Nat) (Data.func (FuncData.mk (Str.ofString ("__getitem__")) (Str.ofString ("Headers.__getitem__")) m14x5p (FuncBody.stmts m14x5b) m14x5s ((3 : Nat)) (@List.nil (Str × Nat)) (Value.none) (Value.none) (Value.none) (Value.str (Str.ofString ("cpy313.wsgiref.headers")) ((367 : Nat))) (@Option.none Nat) (Value.ref ((158 : Nat))) (Value.none) ((0 : Nat)))) (#[])
noncomputable def o120K (P : Params) : Obj := Obj.mk (Value.type ("tuple")) (@Option.none Nat) (Data.seq (#[Value.str (Str.ofString ("self")) ((538 : Nat)), Value.str (Str.ofString ("name")) ((539 : Nat))]) ((0 : Nat))) (#[])
noncomputable def o121K (P : Params) : Obj := Obj.mk (Value.none) (@Option.none Nat) (Data.func (FuncData.mk (Str.ofString ("__contains__")) (Str.ofString ("Headers.__contains__")) m14x6p (FuncBody.stmts m14x6b) m14x6s ((0 : Nat)) (@List.nil (Str × Nat)) (Value.none) (Value.none) (Value.none) (Value.none) (@Option.none Nat) (Value.none) (Value.none) ((0 : Nat)))) (#[])
noncomputable def o122K (P : Params) : Obj := Obj.mk (Value.type ("code")) (@Option.none Nat) (Data.fields ((List.toArray ((Value.str (Str.ofString ("__contains__")) ((535 : Nat))) :: (Value.str (Str.ofString ("Headers.__contains__")) ((536 : Nat))) :: (Value.str (Str.ofString ("/claim/cut.py")) ((537 : Nat))) :: (Value.int (101) ((0 : Nat))) :: (Value.int (2) ((0 : Nat))) :: (Value.int (0) ((0 : Nat))) :: (Value.int (0) ((0 : Nat))) :: (Value.int (3) ((0 : Nat))) :: (Value.ref ((160 : Nat))) :: (Value.bool (Bool.true)) :: (Value.int (276) ((0 : Nat))) :: (Value.ref ((161 : Nat))) :: (Value.none) :: (Value.ref ((162 : Nat))) :: (Value.ref ((163 : Nat))) :: (Value.ref ((164 : Nat))) :: (Value.int (540) ((0 : Nat))) :: (Value.int (101) ((0 : Nat))) :: (Value.str (Str.ofString ("/claim/cut.py")) ((541 : Nat))) :: [])))) (#[])
noncomputable def o123K (P : Params) : Obj := Obj.mk (Value.type ("function")) (@Option.none Nat) (Data.func (FuncData.mk (Str.ofString ("__contains__")) (Str.ofString ("Headers.__contains__")) m14x6p (FuncBody.stmts m14x6b) m14x6s ((3 : Nat)) (@List.nil (Str × Nat)) (Value.none) (Value.none) (Value.none) (Value.str (Str.ofString ("cpy313.wsgiref.headers")) ((367 : Nat))) (@Option.none Nat) (Value.ref ((165 : Nat))) (Value.none) ((0 : Nat)))) (#[])
noncomputable def o124K (P : Params) : Obj := Obj.mk (Value.none) (@Option.none Nat) (Data.func (FuncData.mk (Str.ofString ("get_all")) (Str.ofString ("Headers.get_all")) m14x7p (FuncBody.stmts m14x7b) m14x7s ((0 : Nat)) (@List.nil (Str × Nat)) (Value.none) (Value.none) (Value.none) (Value.none) (@Option.none Nat) (Value.none) (Value.none) ((0 : Nat)))) (#[])
noncomputable def o125K (P : Params) : Obj := Obj.mk (Value.type ("code")) (@Option.none Nat) (Data.fields ((List.toArray ((Value.str (Str.ofString ("get_all")) ((543 : Nat))) :: (Value.str (Str.ofString ("Headers.get_all")) ((544 : Nat))) :: (Value.str (Str.ofString ("/claim/cut.py")) ((545 : Nat))) :: (Value.int (104) ((0 : Nat))) :: (Value.int (2) ((0 : Nat))) :: (Value.int (0) ((0 : Nat))) :: (Value.int (0) ((0 : Nat))) :: (Value.int (3) ((0 : Nat))) :: (Value.ref ((167 : Nat))) :: (Value.bool (Bool.true)) :: (Value.int (276) ((0 : Nat))) :: (Value.ref ((168 : Nat))) :: (Value.none) :: (Value.none) :: (Value.none) :: (Value.ref ((169 : Nat))) :: (Value.int (546) ((0 : Nat))) :: (Value.int (104) ((0 : Nat))) :: (Value.str (Str.ofString ("/claim/cut.py")) ((547 : Nat))) :: [])))) (#[])
noncomputable def o126K (P : Params) : Obj := Obj.mk (Value.type ("function")) (@Option.none Nat) (Data.func (FuncData.mk (Str.ofString ("get_all")) (Str.ofString ("Headers.get_all")) m14x7p (FuncBody.stmts m14x7b) m14x7s ((3 : Nat)) (@List.nil (Str × Nat)) (Value.none) (Value.none) (Value.none) (Value.str (Str.ofString ("cpy313.wsgiref.headers")) ((367 : Nat))) (@Option.none Nat) (Value.ref ((170 : Nat))) (Value.none) ((0 : Nat)))) (#[])
noncomputable def o127K (P : Params) : Obj := Obj.mk (Value.type ("tuple")) (@Option.none Nat) (Data.seq (#[Value.str (Str.ofString ("self")) ((552 : Nat)), Value.str (Str.ofString ("name")) ((553 : Nat)), Value.str (Str.ofString ("default")) ((554 : Nat)), Value.str (Str.ofString ("k")) ((555 : Nat)), Value.str (Str.ofString ("v")) ((556 : Nat))]) ((0 : Nat))) (#[])
noncomputable def o128K (P : Params) : Obj := Obj.mk (Value.none) (@Option.none Nat) (Data.func (FuncData.mk (Str.ofString ("get")) (Str.ofString ("Headers.get")) m14x8p (FuncBody.stmts m14x8b) m14x8s ((0 : Nat)) (@List.nil (Str × Nat)) (Value.none) (Value.none) (Value.none) (Value.none) (@Option.none Nat) (Value.none) (Value.none) ((0 : Nat)))) (#[])
noncomputable def o129K (P : Params) : Obj := Obj.mk (Value.type ("code")) (@Option.none Nat) (Data.fields ((List.toArray ((Value.str (Str.ofString ("get")) ((549 : Nat))) :: (Value.str (Str.ofString ("Headers.get")) ((550 : Nat))) :: (Value.str (Str.ofString ("/claim/cut.py")) ((551 : Nat))) :: (Value.int (108) ((0 : Nat))) :: (Value.int (3) ((0 : Nat))) :: (Value.int (0) ((0 : Nat))) :: (Value.int (0) ((0 : Nat))) :: (Value.int (3) ((0 : Nat))) :: (Value.ref ((173 : Nat))) :: (Value.bool (Bool.true)) :: (Value.int (276) ((0 : Nat))) :: (Value.ref ((174 : Nat))) :: (Value.none) :: (Value.ref ((175 : Nat))) :: (Value.ref ((176 : Nat))) :: (Value.ref ((177 : Nat))) :: (Value.int (557) ((0 : Nat))) :: (Value.int (108) ((0 : Nat))) :: (Value.str (Str.ofString ("/claim/cut.py")) ((558 : Nat))) :: [])))) (#[])
noncomputable def o130K (P : Params) : Obj := Obj.mk (Value.type ("function")) (@Option.none Nat) (Data.func (FuncData.mk (Str.ofString ("get")) (Str.ofString ("Headers.get")) m14x8p (FuncBody.stmts m14x8b) m14x8s ((3 : Nat)) (@List.nil (Str × Nat)) (Value.ref ((172 : Nat))) (Value.none) (Value.none) (Value.str (Str.ofString ("cpy313.wsgiref.headers")) ((367 : Nat))) (@Option.none Nat) (Value.ref ((178 : Nat))) (Value.none) ((0 : Nat)))) (#[])
noncomputable def o131K (P : Params) : Obj := Obj.mk (Value.none) (@Option.none Nat) (Data.func (FuncData.mk (Str.ofString ("keys")) (Str.ofString ("Headers.keys")) m14x9p (FuncBody.stmts m14x9b) m14x9s ((0 : Nat)) (@List.nil (Str × Nat)) (Value.none) (Value.none) (Value.none) (Value.none) (@Option.none Nat) (Value.none) (Value.none) ((0 : Nat)))) (#[])
noncomputable def o132K (P : Params) : Obj := Obj.mk (Value.type ("code")) (@Option.none Nat) (Data.fields ((List.toArray ((Value.str (Str.ofString ("keys")) ((560 : Nat))) :: (Value.str (Str.ofString ("Headers.keys")) ((561 : Nat))) :: (Value.str (Str.ofString ("/claim/cut.py")) ((562 : Nat))) :: (Value.int (115) ((0 : Nat))) :: (Value.int (1) ((0 : Nat))) :: (Value.int (0) ((0 : Nat))) :: (Value.int (0) ((0 : Nat))) :: (Value.int (3) ((0 : Nat))) :: (Value.ref ((180 : Nat))) :: (Value.bool (Bool.true)) :: (Value.int (276) ((0 : Nat))) :: (Value.ref ((181 : Nat))) :: (Value.none) :: (Value.none) :: (Value.none) :: (Value.ref ((182 : Nat))) :: (Value.int (563) ((0 : Nat))) :: (Value.int (115) ((0 : Nat))) :: (Value.str (Str.ofString ("/claim/cut.py")) ((564 : Nat))) :: [])))) (#[])
noncomputable def o133K (P : Params) : Obj := Obj.mk (Value.type ("function")) (@Option.none Nat) (Data.func (FuncData.mk (Str.ofString ("keys")) (Str.ofString ("Headers.keys")) m14x9p (FuncBody.stmts m14x9b) m14x9s ((3 : Nat)) (@List.nil (Str × Nat)) (Value.none) (Value.none) (Value.none) (Value.str (Str.ofString ("cpy313.wsgiref.headers")) ((367 : Nat))) (@Option.none Nat) (Value.ref ((183 : Nat))) (Value.none) ((0 : Nat)))) (#[])
noncomputable def o134K (P : Params) : Obj := Obj.mk (Value.none) (@Option.none Nat) (Data.func (FuncData.mk (Str.ofString ("values")) (Str.ofString ("Headers.values")) m14x10p (FuncBody.stmts m14x10b) m14x10s ((0 : Nat)) (@List.nil (Str × Nat)) (Value.none) (Value.none) (Value.none) (Value.none) (@Option.none Nat) (Value.none) (Value.none) ((0 : Nat)))) (#[])
noncomputable def o135K (P : Params) : Obj := Obj.mk (Value.type ("code")) (@Option.none Nat) (Data.fields ((List.toArray ((Value.str (Str.ofString ("values")) ((566 : Nat))) :: (Value.str (Str.ofString ("Headers.values")) ((567 : Nat))) :: (Value.str (Str.ofString ("/claim/cut.py")) ((568 : Nat))) :: (Value.int (118) ((0 : Nat))) :: (Value.int (1) ((0 : Nat))) :: (Value.int (0) ((0 : Nat))) :: (Value.int (0) ((0 : Nat))) :: (Value.int (3) ((0 : Nat))) :: (Value.ref ((185 : Nat))) :: (Value.bool (Bool.true)) :: (Value.int (276) ((0 : Nat))) :: (Value.ref ((186 : Nat))) :: (Value.none) :: (Value.none) :: (Value.none) :: (Value.ref ((187 : Nat))) :: (Value.int (569) ((0 : Nat))) :: (Value.int (118) ((0 : Nat))) :: (Value.str (Str.ofString ("/claim/cut.py")) ((570 : Nat))) :: [])))) (#[])
noncomputable def o136K (P : Params) : Obj := Obj.mk (Value.type ("function")) (@Option.none Nat) (Data.func (FuncData.mk (Str.ofString ("values")) (Str.ofString ("Headers.values")) m14x10p (FuncBody.stmts m14x10b) m14x10s ((3 : Nat)) (@List.nil (Str × Nat)) (Value.none) (Value.none) (Value.none) (Value.str (Str.ofString ("cpy313.wsgiref.headers")) ((367 : Nat))) (@Option.none Nat) (Value.ref ((188 : Nat))) (Value.none) ((0 : Nat)))) (#[])
noncomputable def o137K (P : Params) : Obj := Obj.mk (Value.type ("tuple")) (@Option.none Nat) (Data.seq (#[Value.str (Str.ofString ("self")) ((575 : Nat))]) ((0 : Nat))) (#[])
noncomputable def o138K (P : Params) : Obj := Obj.mk (Value.none) (@Option.none Nat) (Data.func (FuncData.mk (Str.ofString ("items")) (Str.ofString ("Headers.items")) m14x11p (FuncBody.stmts m14x11b) m14x11s ((0 : Nat)) (@List.nil (Str × Nat)) (Value.none) (Value.none) (Value.none) (Value.none) (@Option.none Nat) (Value.none) (Value.none) ((0 : Nat)))) (#[])
noncomputable def o139K (P : Params) : Obj := Obj.mk (Value.type ("code")) (@Option.none Nat) (Data.fields ((List.toArray ((Value.str (Str.ofString ("items")) ((572 : Nat))) :: (Value.str (Str.ofString ("Headers.items")) ((573 : Nat))) :: (Value.str (Str.ofString ("/claim/cut.py")) ((574 : Nat))) :: (Value.int (121) ((0 : Nat))) :: (Value.int (1) ((0 : Nat))) :: (Value.int (0) ((0 : Nat))) :: (Value.int (0) ((0 : Nat))) :: (Value.int (3) ((0 : Nat))) :: (Value.ref ((190 : Nat))) :: (Value.bool (Bool.true)) :: (Value.int (276) ((0 : Nat))) :: (Value.ref ((191 : Nat))) :: (Value.none) :: (Value.ref ((192 : Nat))) :: (Value.ref ((193 : Nat))) :: (Value.ref ((194 : Nat))) :: (Value.int (576) ((0 : Nat))) :: (Value.int (121) ((0 : Nat))) :: (Value.str (Str.ofString ("/claim/cut.py")) ((577 : Nat))) :: [])))) (#[])
noncomputable def o140K (P : Params) : Obj := Obj.mk (Value.type ("function")) (@Option.none Nat) (Data.func (FuncData.mk (Str.ofString ("items")) (Str.ofString ("Headers.items")) m14x11p (FuncBody.stmts m14x11b) m14x11s ((3 : Nat)) (@List.nil (Str × Nat)) (Value.none) (Value.none) (Value.none) (Value.str (Str.ofString ("cpy313.wsgiref.headers")) ((367 : Nat))) (@Option.none Nat) (Value.ref ((195 : Nat))) (Value.none) ((0 : Nat)))) (#[])
noncomputable def o141K (P : Params) : Obj := Obj.mk (Value.type ("tuple")) (@Option.none Nat) (Data.seq (#[Value.str (Str.ofString ("self")) ((582 : Nat))]) ((0 : Nat))) (#[])
noncomputable def o142K (P : Params) : Obj := Obj.mk (Value.none) (@Option.none Nat) (Data.func (FuncData.mk (Str.ofString ("__repr__")) (Str.ofString ("Headers.__repr__")) m14x12p (FuncBody.stmts m14x12b) m14x12s ((0 : Nat)) (@List.nil (Str × Nat)) (Value.none) (Value.none) (Value.none) (Value.none) (@Option.none Nat) (Value.none) (Value.none) ((0 : Nat)))) (#[])
noncomputable def o143K (P : Params) : Obj := Obj.mk (Value.type ("code")) (@Option.none Nat) (Data.fields ((List.toArray ((Value.str (Str.ofString ("__repr__")) ((579 : Nat))) :: (Value.str (Str.ofString ("Headers.__repr__")) ((580 : Nat))) :: (Value.str (Str.ofString ("/claim/cut.py")) ((581 : Nat))) :: (Value.int (124) ((0 : Nat))) :: (Value.int (1) ((0 : Nat))) :: (Value.int (0) ((0 : Nat))) :: (Value.int (0) ((0 : Nat))) :: (Value.int (3) ((0 : Nat))) :: (Value.ref ((197 : Nat))) :: (Value.bool (Bool.true)) :: (Value.int (276) ((0 : Nat))) :: (Value.ref ((198 : Nat))) :: (Value.none) :: (Value.ref ((199 : Nat))) :: (Value.ref ((200 : Nat))) :: (Value.ref ((201 : Nat))) :: (Value.int (583) ((0 : Nat))) :: (Value.int (124) ((0 : Nat))) :: (Value.str (Str.ofString ("/claim/cut.py")) ((584 : Nat))) :: [])))) (#[])
noncomputable def o144K (P : Params) : Obj := Obj.mk (Value.type ("function")) (@Option.none Nat) (Data.func (FuncData.mk (Str.ofString ("__repr__")) (Str.ofString ("Headers.__repr__")) m14x12p (FuncBody.stmts m14x12b) m14x12s ((3 : Nat)) (@List.nil (Str × Nat)) (Value.none) (Value.none) (Value.none) (Value.str (Str.ofString ("cpy313.wsgiref.headers")) ((367 : Nat))) (@Option.none Nat) (Value.ref ((202 : Nat))) (Value.none) ((0 : Nat)))) (#[])
noncomputable def o145K (P : Params) : Obj := Obj.mk (Value.none) (@Option.none Nat) (Data.func (FuncData.mk (Str.ofString ("__str__")) (Str.ofString ("Headers.__str__")) m14x13p (FuncBody.stmts m14x13b) m14x13s ((0 : Nat)) (@List.nil (Str × Nat)) (Value.none) (Value.none) (Value.none) (Value.none) (@Option.none Nat) (Value.none) (Value.none) ((0 : Nat)))) (#[])
noncomputable def o146K (P : Params) : Obj := Obj.mk (Value.type ("code")) (@Option.none Nat) (Data.fields ((List.toArray ((Value.str (Str.ofString ("__str__")) ((586 : Nat))) :: (Value.str (Str.ofString ("Headers.__str__")) ((587 : Nat))) :: (Value.str (Str.ofString ("/claim/cut.py")) ((588 : Nat))) :: (Value.int (127) ((0 : Nat))) :: (Value.int (1) ((0 : Nat))) :: (Value.int (0) ((0 : Nat))) :: (Value.int (0) ((0 : Nat))) :: (Value.int (3) ((0 : Nat))) :: (Value.ref ((204 : Nat))) :: (Value.bool (Bool.true)) :: (Value.int (276) ((0 : Nat))) :: (Value.ref ((205 : Nat))) :: (Value.none) :: (Value.none) :: (Value.none) :: (Value.ref ((206 : Nat))) :: (Value.int (589) ((0 : Nat))) :: (Value.int (127) ((0 : Nat))) :: (Value.str (Str.ofString ("/claim/cut.py")) ((590 : Nat))) :: [])))) (#[])
noncomputable def o147K (P : Params) : Obj := Obj.mk (Value.type ("function")) (@Option.none Nat) (Data.func (FuncData.mk (Str.ofString ("__str__")) (Str.ofString ("Headers.__str__")) m14x13p (FuncBody.stmts m14x13b) m14x13s ((3 : Nat)) (@List.nil (Str × Nat)) (Value.none) (Value.none) (Value.none) (Value.str (Str.ofString ("cpy313.wsgiref.headers")) ((367 : Nat))) (@Option.none Nat) (Value.ref ((207 : Nat))) (Value.none) ((0 : Nat)))) (#[])
noncomputable def o148K (P : Params) : Obj := Obj.mk (Value.type ("tuple")) (@Option.none Nat) (Data.seq (#[Value.str (Str.ofString ("self")) ((595 : Nat))]) ((0 : Nat))) (#[])
noncomputable def o149K (P : Params) : Obj := Obj.mk (Value.none) (@Option.none Nat) (Data.func (FuncData.mk (Str.ofString ("__bytes__")) (Str.ofString ("Headers.__bytes__")) m14x14p (FuncBody.stmts m14x14b) m14x14s ((0 : Nat)) (@List.nil (Str × Nat)) (Value.none) (Value.none) (Value.none) (Value.none) (@Option.none Nat) (Value.none) (Value.none) ((0 : Nat)))) (#[])
noncomputable def o150K (P : Params) : Obj := Obj.mk (Value.type ("code")) (@Option.none Nat) (Data.fields ((List.toArray ((Value.str (Str.ofString ("__bytes__")) ((592 : Nat))) :: (Value.str (Str.ofString ("Headers.__bytes__")) ((593 : Nat))) :: (Value.str (Str.ofString ("/claim/cut.py")) ((594 : Nat))) :: (Value.int (130) ((0 : Nat))) :: (Value.int (1) ((0 : Nat))) :: (Value.int (0) ((0 : Nat))) :: (Value.int (0) ((0 : Nat))) :: (Value.int (3) ((0 : Nat))) :: (Value.ref ((209 : Nat))) :: (Value.bool (Bool.true)) :: (Value.int (276) ((0 : Nat))) :: (Value.ref ((210 : Nat))) :: (Value.none) :: (Value.ref ((211 : Nat))) :: (Value.ref ((212 : Nat))) :: (Value.ref ((213 : Nat))) :: (Value.int (596) ((0 : Nat))) :: (Value.int (130) ((0 : Nat))) :: (Value.str (Str.ofString ("/claim/cut.py")) ((597 : Nat))) :: [])))) (#[])
noncomputable def o151K (P : Params) : Obj := Obj.mk (Value.type ("function")) (@Option.none Nat) (Data.func (FuncData.mk (Str.ofString ("__bytes__")) (Str.ofString ("Headers.__bytes__")) m14x14p (FuncBody.stmts m14x14b) m14x14s ((3 : Nat)) (@List.nil (Str × Nat)) (Value.none) (Value.none) (Value.none) (Value.str (Str.ofString ("cpy313.wsgiref.headers")) ((367 : Nat))) (@Option.none Nat) (Value.ref ((214 : Nat))) (Value.none) ((0 : Nat)))) (#[])
noncomputable def o152K (P : Params) : Obj := Obj.mk (Value.type ("tuple")) (@Option.none Nat) (Data.seq (#[Value.str (Str.ofString ("self")) ((602 : Nat)), Value.str (Str.ofString ("name")) ((603 : Nat)), Value.str (Str.ofString ("value")) ((604 : Nat))]) ((0 : Nat))) (#[])
noncomputable def o153K (P : Params) : Obj := Obj.mk (Value.none) (@Option.none Nat) (Data.func (FuncData.mk (Str.ofString ("setdefault")) (Str.ofString ("Headers.setdefault")) m14x15p (FuncBody.stmts m14x15b) m14x15s ((0 : Nat)) (@List.nil (Str × Nat)) (Value.none) (Value.none) (Value.none) (Value.none) (@Option.none Nat) (Value.none) (Value.none) ((0 : Nat)))) (#[])
noncomputable def o154K (P : Params) : Obj := Obj.mk (Value.type ("code")) (@Option.none Nat) (Data.fields ((List.toArray ((Value.str (Str.ofString ("setdefault")) ((599 : Nat))) :: (Value.str (Str.ofString ("Headers.setdefault")) ((600 : Nat))) :: (Value.str (Str.ofString ("/claim/cut.py")) ((601 : Nat))) :: (Value.int (133) ((0 : Nat))) :: (Value.int (3) ((0 : Nat))) :: (Value.int (0) ((0 : Nat))) :: (Value.int (0) ((0 : Nat))) :: (Value.int (3) ((0 : Nat))) :: (Value.ref ((216 : Nat))) :: (Value.bool (Bool.true)) :: (Value.int (276) ((0 : Nat))) :: (Value.ref ((217 : Nat))) :: (Value.none) :: (Value.ref ((218 : Nat))) :: (Value.ref ((219 : Nat))) :: (Value.ref ((220 : Nat))) :: (Value.int (605) ((0 : Nat))) :: (Value.int (133) ((0 : Nat))) :: (Value.str (Str.ofString ("/claim/cut.py")) ((606 : Nat))) :: [])))) (#[])
noncomputable def o155K (P : Params) : Obj := Obj.mk (Value.type ("function")) (@Option.none Nat) (Data.func (FuncData.mk (Str.ofString ("setdefault")) (Str.ofString ("Headers.setdefault")) m14x15p (FuncBody.stmts m14x15b) m14x15s ((3 : Nat)) (@List.nil (Str × Nat)) (Value.none) (Value.none) (Value.none) (Value.str (Str.ofString ("cpy313.wsgiref.headers")) ((367 : Nat))) (@Option.none Nat) (Value.ref ((221 : Nat))) (Value.none) ((0 : Nat)))) (#[])
noncomputable def o156K (P : Params) : Obj := Obj.mk (Value.type ("tuple")) (@Option.none Nat) (Data.seq (#[Value.str (Str.ofString ("self")) ((611 : Nat)), Value.str (Str.ofString ("_name")) ((612 : Nat)), Value.str (Str.ofString ("_value")) ((613 : Nat)), Value.str (Str.ofString ("_params")) ((614 : Nat)), Value.str (Str.ofString ("parts")) ((615 : Nat)), Value.str (Str.ofString ("k")) ((616 : Nat)), Value.str (Str.ofString ("v")) ((617 : Nat))]) ((0 : Nat))) (#[])
noncomputable def o157K (P : Params) : Obj := Obj.mk (Value.none) (@Option.none Nat) (Data.func (FuncData.mk (Str.ofString ("add_header")) (Str.ofString ("Headers.add_header")) m14x16p (FuncBody.stmts m14x16b) m14x16s ((0 : Nat)) (@List.nil (Str × Nat)) (Value.none) (Value.none) (Value.none) (Value.none) (@Option.none Nat) (Value.none) (Value.none) ((0 : Nat)))) (#[])
noncomputable def o158K (P : Params) : Obj := Obj.mk (Value.type ("code")) (@Option.none Nat) (Data.fields ((List.toArray ((Value.str (Str.ofString ("add_header")) ((608 : Nat))) :: (Value.str (Str.ofString ("Headers.add_header")) ((609 : Nat))) :: (Value.str (Str.ofString ("/claim/cut.py")) ((610 : Nat))) :: (Value.int (136) ((0 : Nat))) :: (Value.int (3) ((0 : Nat))) :: (Value.int (0) ((0 : Nat))) :: (Value.int (0) ((0 : Nat))) :: (Value.int (11) ((0 : Nat))) :: (Value.ref ((223 : Nat))) :: (Value.bool (Bool.true)) :: (Value.int (276) ((0 : Nat))) :: (Value.ref ((224 : Nat))) :: (Value.none) :: (Value.ref ((225 : Nat))) :: (Value.ref ((226 : Nat))) :: (Value.ref ((227 : Nat))) :: (Value.int (618) ((0 : Nat))) :: (Value.int (136) ((0 : Nat))) :: (Value.str (Str.ofString ("/claim/cut.py")) ((619 : Nat))) :: [])))) (#[])
noncomputable def o159K (P : Params) : Obj := Obj.mk (Value.type ("function")) (@Option.none Nat) (Data.func (FuncData.mk (Str.ofString ("add_header")) (Str.ofString ("Headers.add_header")) m14x16p (FuncBody.stmts m14x16b) m14x16s ((3 : Nat)) (@List.nil (Str × Nat)) (Value.none) (Value.none) (Value.none) (Value.str (Str.ofString ("cpy313.wsgiref.headers")) ((367 : Nat))) (@Option.none Nat) (Value.ref ((228 : Nat))) (Value.none) ((0 : Nat)))) (#[])
noncomputable def o160K (P : Params) : Obj := Obj.mk (Value.type ("tuple")) (@Option.none Nat) (Data.seq (#[Value.str (Str.ofString ("_headers")) ((621 : Nat))]) ((0 : Nat))) (#[])
noncomputable def o161K (P : Params) : Obj := Obj.mk (Value.type ("dict")) (@Option.none Nat) (Data.dict ((List.toArray ((kE P "__module__" (480 : Nat) (Value.str (Str.ofString ("cpy313.wsgiref.headers")) ((367 : Nat)))) :: (kE P "__firstlineno__" (484 : Nat) (Value.int (67) ((483 : Nat)))) :: (kE P "__init__" (494 : Nat) (Value.ref ((126 : Nat)))) :: (kE P "_convert_string_type" (504 : Nat) (Value.ref ((133 : Nat)))) :: (kE P "__len__" (511 : Nat) (Value.ref ((140 : Nat)))) :: (kE P "__setitem__" (520 : Nat) (Value.ref ((147 : Nat)))) :: (kE P "__delitem__" (526 : Nat) (Value.ref ((152 : Nat)))) :: (kE P "__getitem__" (534 : Nat) (Value.ref ((159 : Nat)))) :: (kE P "__contains__" (542 : Nat) (Value.ref ((166 : Nat)))) :: (kE P "get_all" (548 : Nat) (Value.ref ((171 : Nat)))) :: (kE P "get" (559 : Nat) (Value.ref ((179 : Nat)))) :: (kE P "keys" (565 : Nat) (Value.ref ((184 : Nat)))) :: (kE P "values" (571 : Nat) (Value.ref ((189 : Nat)))) :: (kE P "items" (578 : Nat) (Value.ref ((196 : Nat)))) :: (kE P "__repr__" (585 : Nat) (Value.ref ((203 : Nat)))) :: (kE P "__str__" (591 : Nat) (Value.ref ((208 : Nat)))) :: (kE P "__bytes__" (598 : Nat) (Value.ref ((215 : Nat)))) :: (kE P "setdefault" (607 : Nat) (Value.ref ((222 : Nat)))) :: (kE P "add_header" (620 : Nat) (Value.ref ((229 : Nat)))) :: (kE P "__static_attributes__" (622 : Nat) (Value.ref ((230 : Nat)))) :: (kE P "__dict__" (624 : Nat) (Value.ref ((233 : Nat)))) :: (kE P "__weakref__" (626 : Nat) (Value.ref ((234 : Nat)))) :: (kE P "__doc__" (627 : Nat) (Value.none)) :: []))) ((4 : Nat))) (#[])
noncomputable def o162K (P : Params) : Obj := Obj.mk (Value.type ("type")) (@Option.none Nat) (Data.cls (ClassData.mk (Str.ofString ("Headers")) ([Value.type ("object")]) ([Value.ref ((232 : Nat)), Value.type ("object")]) ((231 : Nat)) (Str.ofString ("Headers")) (Bool.true) ([]) ([]) (Bool.false) (Option.none) (Bool.false))) (#[Option.none, Option.none, Option.some (Value.str (Str.ofString ("Headers")) ((473 : Nat))), Option.some (Value.str (Str.ofString ("Headers")) ((481 : Nat))), Option.some (Value.builtin ("object.__new__")), Option.some (Value.bool (Bool.true))])
noncomputable def o163K (P : Params) : Obj := Obj.mk (Value.type ("getset_descriptor")) (@Option.none Nat) (Data.fields (#[Value.str (Str.ofString ("__dict__")) ((623 : Nat)), Value.ref ((232 : Nat)), Value.builtin ("function.__dict__"), Value.builtin ("function.__dict__#set")])) (#[])
noncomputable def o164K (P : Params) : Obj := Obj.mk (Value.type ("getset_descriptor")) (@Option.none Nat) (Data.fields (#[Value.str (Str.ofString ("__weakref__")) ((625 : Nat)), Value.ref ((232 : Nat)), Value.builtin ("ExceptionGroup.__weakref__"), Value.none])) (#[])
noncomputable def o165K (P : Params) : Obj := Obj.mk (Value.type ("super")) (@Option.none Nat) (Data.fields (#[Value.ref ((232 : Nat)), Value.ref ((232 : Nat)), Value.ref ((232 : Nat))])) (#[])
noncomputable def o166K (P : Params) : Obj := Obj.mk (Value.type ("builtin_function_or_method")) (@Option.none Nat) (Data.fields (#[Value.builtin ("object.__init_subclass__"), Value.ref ((232 : Nat))])) (#[])
noncomputable def o167K (P : Params) : Obj := Obj.mk (Value.type ("dict")) (@Option.none Nat) (Data.dict ((List.toArray ((kE P "__name__" (165 : Nat) (Value.str (Str.ofString ("law_ux0026_02")) ((630 : Nat)))) :: (kE P "__doc__" (166 : Nat) (Value.none)) :: (kE P "__package__" (167 : Nat) (Value.none)) :: (kE P "__loader__" (168 : Nat) (Value.builtin ("__main__.__loader__#opaque"))) :: (kE P "__spec__" (169 : Nat) (Value.none)) :: (kE P "__annotations__" (170 : Nat) (Value.ref ((6 : Nat)))) :: (kE P "__builtins__" (171 : Nat) (Value.ref ((4 : Nat)))) :: (kE P "__file__" (173 : Nat) (Value.str (Str.ofString ("/claim/cut.py")) ((172 : Nat)))) :: (kE P "__cached__" (174 : Nat) (Value.none)) :: (kE P "_sre" (275 : Nat) (Value.ref ((12 : Nat)))) :: (kE P "_wall" (288 : Nat) (Value.ref ((38 : Nat)))) :: (kE P "Error" (310 : Nat) (Value.ref ((48 : Nat)))) :: (kE P "error_reply" (326 : Nat) (Value.ref ((61 : Nat)))) :: (kE P "parse257" (337 : Nat) (Value.ref ((70 : Nat)))) :: (kE P "insort_right" (352 : Nat) (Value.ref ((79 : Nat)))) :: (kE P "bisect_right" (366 : Nat) (Value.ref ((88 : Nat)))) :: (kE P "tspecials" (402 : Nat) (Value.ref ((93 : Nat)))) :: (kE P "_name_disallowed_re" (428 : Nat) (Value.ref ((98 : Nat)))) :: (kE P "_value_disallowed_re" (462 : Nat) (Value.ref ((103 : Nat)))) :: (kE P "_formatparam" (472 : Nat) (Value.ref ((111 : Nat)))) :: (kE P "Headers" (629 : Nat) (Value.ref ((232 : Nat)))) :: (kE P "_law_cells" (640 : Nat) (Value.ref ((243 : Nat)))) :: (kE P "_law_choices" (653 : Nat) (Value.ref ((250 : Nat)))) :: (kE P "_law_table" (669 : Nat) (Value.ref ((257 : Nat)))) :: (kE P "_law_names" (680 : Nat) (Value.ref ((264 : Nat)))) :: (kE P "_law_row" (686 : Nat) (Value.ref ((269 : Nat)))) :: (kE P "_law_refused" (693 : Nat) (Value.ref ((276 : Nat)))) :: (kE P "law" (699 : Nat) (Value.ref ((281 : Nat)))) :: []))) ((28 : Nat))) (#[])
noncomputable def o168K (P : Params) : Obj := Obj.mk (Value.none) (@Option.none Nat) (Data.fields ((List.toArray ((Value.int (2) ((0 : Nat))) :: (Value.int (0) ((0 : Nat))) :: (Value.ref ((37 : Nat))) :: (Value.int (6) ((0 : Nat))) :: (Value.int (0) ((0 : Nat))) :: (Value.ref ((44 : Nat))) :: (Value.int (8) ((0 : Nat))) :: (Value.int (0) ((0 : Nat))) :: (Value.ref ((57 : Nat))) :: (Value.int (10) ((0 : Nat))) :: (Value.int (0) ((0 : Nat))) :: (Value.ref ((69 : Nat))) :: (Value.int (28) ((0 : Nat))) :: (Value.int (0) ((0 : Nat))) :: (Value.ref ((78 : Nat))) :: (Value.int (34) ((0 : Nat))) :: (Value.int (0) ((0 : Nat))) :: (Value.ref ((87 : Nat))) :: (Value.int (58) ((0 : Nat))) :: (Value.int (0) ((0 : Nat))) :: (Value.ref ((110 : Nat))) :: (Value.int (67) ((0 : Nat))) :: (Value.int (0) ((0 : Nat))) :: (Value.ref ((117 : Nat))) :: (Value.int (150) ((0 : Nat))) :: (Value.int (0) ((0 : Nat))) :: (Value.ref ((242 : Nat))) :: (Value.int (154) ((0 : Nat))) :: (Value.int (0) ((0 : Nat))) :: (Value.ref ((249 : Nat))) :: (Value.int (165) ((0 : Nat))) :: (Value.int (0) ((0 : Nat))) :: (Value.ref ((256 : Nat))) :: (Value.int (176) ((0 : Nat))) :: (Value.int (0) ((0 : Nat))) :: (Value.ref ((263 : Nat))) :: (Value.int (186) ((0 : Nat))) :: (Value.int (0) ((0 : Nat))) :: (Value.ref ((268 : Nat))) :: (Value.int (196) ((0 : Nat))) :: (Value.int (0) ((0 : Nat))) :: (Value.ref ((275 : Nat))) :: (Value.int (202) ((0 : Nat))) :: (Value.int (0) ((0 : Nat))) :: (Value.ref ((280 : Nat))) :: [])))) (#[])
noncomputable def o169K (P : Params) : Obj := Obj.mk (Value.type ("tuple")) (@Option.none Nat) (Data.seq (#[Value.str (Str.ofString ("script")) ((635 : Nat)), Value.str (Str.ofString ("cells")) ((636 : Nat)), Value.str (Str.ofString ("place")) ((637 : Nat))]) ((0 : Nat))) (#[])
noncomputable def o170K (P : Params) : Obj := Obj.mk (Value.none) (@Option.none Nat) (Data.func (FuncData.mk (Str.ofString ("_law_cells")) (Str.ofString ("_law_cells")) f16p (FuncBody.stmts f16b) f16s ((0 : Nat)) (@List.nil (Str × Nat)) (Value.none) (Value.none) (Value.none) (Value.none) (@Option.none Nat) (Value.none) (Value.none) ((0 : Nat)))) (#[])
noncomputable def o171K (P : Params) : Obj := Obj.mk (Value.type ("code")) (@Option.none Nat) (Data.fields ((List.toArray ((Value.str (Str.ofString ("_law_cells")) ((632 : Nat))) :: (Value.str (Str.ofString ("_law_cells")) ((633 : Nat))) :: (Value.str (Str.ofString ("/claim/cut.py")) ((634 : Nat))) :: (Value.int (150) ((0 : Nat))) :: (Value.int (2) ((0 : Nat))) :: (Value.int (0) ((0 : Nat))) :: (Value.int (0) ((0 : Nat))) :: (Value.int (3) ((0 : Nat))) :: (Value.ref ((237 : Nat))) :: (Value.bool (Bool.true)) :: (Value.int (276) ((0 : Nat))) :: (Value.ref ((238 : Nat))) :: (Value.none) :: (Value.ref ((239 : Nat))) :: (Value.ref ((240 : Nat))) :: (Value.ref ((241 : Nat))) :: (Value.int (638) ((0 : Nat))) :: (Value.int (150) ((0 : Nat))) :: (Value.str (Str.ofString ("/claim/cut.py")) ((639 : Nat))) :: [])))) (#[])
noncomputable def o172K (P : Params) : Obj := Obj.mk (Value.type ("function")) (@Option.none Nat) (Data.func (FuncData.mk (Str.ofString ("_law_cells")) (Str.ofString ("_law_cells")) f16p (FuncBody.stmts f16b) f16s ((3 : Nat)) (@List.nil (Str × Nat)) (Value.none) (Value.none) (Value.none) (Value.str (Str.ofString ("law_ux0026_02")) ((630 : Nat))) (@Option.none Nat) (Value.ref ((242 : Nat))) (Value.none) ((0 : Nat)))) (#[])
noncomputable def o173K (P : Params) : Obj := Obj.mk (Value.type ("tuple")) (@Option.none Nat) (Data.seq (#[Value.str (Str.ofString ("numbers")) ((644 : Nat)), Value.str (Str.ofString ("marks")) ((645 : Nat)), Value.str (Str.ofString ("choices")) ((646 : Nat)), Value.str (Str.ofString ("choice")) ((647 : Nat)), Value.str (Str.ofString ("count")) ((648 : Nat)), Value.str (Str.ofString ("total")) ((649 : Nat)), Value.str (Str.ofString ("place")) ((650 : Nat))]) ((0 : Nat))) (#[])
noncomputable def o174K (P : Params) : Obj := Obj.mk (Value.none) (@Option.none Nat) (Data.func (FuncData.mk (Str.ofString ("_law_choices")) (Str.ofString ("_law_choices")) f17p (FuncBody.stmts f17b) f17s ((0 : Nat)) (@List.nil (Str × Nat)) (Value.none) (Value.none) (Value.none) (Value.none) (@Option.none Nat) (Value.none) (Value.none) ((0 : Nat)))) (#[])
noncomputable def o175K (P : Params) : Obj := Obj.mk (Value.type ("code")) (@Option.none Nat) (Data.fields ((List.toArray ((Value.str (Str.ofString ("_law_choices")) ((641 : Nat))) :: (Value.str (Str.ofString ("_law_choices")) ((642 : Nat))) :: (Value.str (Str.ofString ("/claim/cut.py")) ((643 : Nat))) :: (Value.int (154) ((0 : Nat))) :: (Value.int (2) ((0 : Nat))) :: (Value.int (0) ((0 : Nat))) :: (Value.int (0) ((0 : Nat))) :: (Value.int (3) ((0 : Nat))) :: (Value.ref ((244 : Nat))) :: (Value.bool (Bool.true)) :: (Value.int (276) ((0 : Nat))) :: (Value.ref ((245 : Nat))) :: (Value.none) :: (Value.ref ((246 : Nat))) :: (Value.ref ((247 : Nat))) :: (Value.ref ((248 : Nat))) :: (Value.int (651) ((0 : Nat))) :: (Value.int (154) ((0 : Nat))) :: (Value.str (Str.ofString ("/claim/cut.py")) ((652 : Nat))) :: [])))) (#[])
noncomputable def o176K (P : Params) : Obj := Obj.mk (Value.type ("function")) (@Option.none Nat) (Data.func (FuncData.mk (Str.ofString ("_law_choices")) (Str.ofString ("_law_choices")) f17p (FuncBody.stmts f17b) f17s ((3 : Nat)) (@List.nil (Str × Nat)) (Value.none) (Value.none) (Value.none) (Value.str (Str.ofString ("law_ux0026_02")) ((630 : Nat))) (@Option.none Nat) (Value.ref ((249 : Nat))) (Value.none) ((0 : Nat)))) (#[])
noncomputable def o177K (P : Params) : Obj := Obj.mk (Value.type ("tuple")) (@Option.none Nat) (Data.seq (#[Value.str (Str.ofString ("choices")) ((657 : Nat)), Value.str (Str.ofString ("letter")) ((658 : Nat)), Value.str (Str.ofString ("tail")) ((659 : Nat)), Value.str (Str.ofString ("table")) ((660 : Nat)), Value.str (Str.ofString ("answers")) ((661 : Nat)), Value.str (Str.ofString ("place")) ((662 : Nat)), Value.str (Str.ofString ("count")) ((663 : Nat)), Value.str (Str.ofString ("total")) ((664 : Nat)), Value.str (Str.ofString ("sign")) ((665 : Nat)), Value.str (Str.ofString ("told")) ((666 : Nat))]) ((0 : Nat))) (#[])
noncomputable def o178K (P : Params) : Obj := Obj.mk (Value.none) (@Option.none Nat) (Data.func (FuncData.mk (Str.ofString ("_law_table")) (Str.ofString ("_law_table")) f18p (FuncBody.stmts f18b) f18s ((0 : Nat)) (@List.nil (Str × Nat)) (Value.none) (Value.none) (Value.none) (Value.none) (@Option.none Nat) (Value.none) (Value.none) ((0 : Nat)))) (#[])
noncomputable def o179K (P : Params) : Obj := Obj.mk (Value.type ("code")) (@Option.none Nat) (Data.fields ((List.toArray ((Value.str (Str.ofString ("_law_table")) ((654 : Nat))) :: (Value.str (Str.ofString ("_law_table")) ((655 : Nat))) :: (Value.str (Str.ofString ("/claim/cut.py")) ((656 : Nat))) :: (Value.int (165) ((0 : Nat))) :: (Value.int (3) ((0 : Nat))) :: (Value.int (0) ((0 : Nat))) :: (Value.int (0) ((0 : Nat))) :: (Value.int (3) ((0 : Nat))) :: (Value.ref ((251 : Nat))) :: (Value.bool (Bool.true)) :: (Value.int (276) ((0 : Nat))) :: (Value.ref ((252 : Nat))) :: (Value.none) :: (Value.ref ((253 : Nat))) :: (Value.ref ((254 : Nat))) :: (Value.ref ((255 : Nat))) :: (Value.int (667) ((0 : Nat))) :: (Value.int (165) ((0 : Nat))) :: (Value.str (Str.ofString ("/claim/cut.py")) ((668 : Nat))) :: [])))) (#[])
noncomputable def o180K (P : Params) : Obj := Obj.mk (Value.type ("function")) (@Option.none Nat) (Data.func (FuncData.mk (Str.ofString ("_law_table")) (Str.ofString ("_law_table")) f18p (FuncBody.stmts f18b) f18s ((3 : Nat)) (@List.nil (Str × Nat)) (Value.none) (Value.none) (Value.none) (Value.str (Str.ofString ("law_ux0026_02")) ((630 : Nat))) (@Option.none Nat) (Value.ref ((256 : Nat))) (Value.none) ((0 : Nat)))) (#[])
noncomputable def o181K (P : Params) : Obj := Obj.mk (Value.type ("tuple")) (@Option.none Nat) (Data.seq (#[Value.str (Str.ofString ("choices")) ((673 : Nat)), Value.str (Str.ofString ("letter")) ((674 : Nat)), Value.str (Str.ofString ("names")) ((675 : Nat)), Value.str (Str.ofString ("place")) ((676 : Nat)), Value.str (Str.ofString ("name")) ((677 : Nat))]) ((0 : Nat))) (#[])
noncomputable def o182K (P : Params) : Obj := Obj.mk (Value.none) (@Option.none Nat) (Data.func (FuncData.mk (Str.ofString ("_law_names")) (Str.ofString ("_law_names")) f19p (FuncBody.stmts f19b) f19s ((0 : Nat)) (@List.nil (Str × Nat)) (Value.none) (Value.none) (Value.none) (Value.none) (@Option.none Nat) (Value.none) (Value.none) ((0 : Nat)))) (#[])
noncomputable def o183K (P : Params) : Obj := Obj.mk (Value.type ("code")) (@Option.none Nat) (Data.fields ((List.toArray ((Value.str (Str.ofString ("_law_names")) ((670 : Nat))) :: (Value.str (Str.ofString ("_law_names")) ((671 : Nat))) :: (Value.str (Str.ofString ("/claim/cut.py")) ((672 : Nat))) :: (Value.int (176) ((0 : Nat))) :: (Value.int (2) ((0 : Nat))) :: (Value.int (0) ((0 : Nat))) :: (Value.int (0) ((0 : Nat))) :: (Value.int (3) ((0 : Nat))) :: (Value.ref ((258 : Nat))) :: (Value.bool (Bool.true)) :: (Value.int (276) ((0 : Nat))) :: (Value.ref ((259 : Nat))) :: (Value.none) :: (Value.ref ((260 : Nat))) :: (Value.ref ((261 : Nat))) :: (Value.ref ((262 : Nat))) :: (Value.int (678) ((0 : Nat))) :: (Value.int (176) ((0 : Nat))) :: (Value.str (Str.ofString ("/claim/cut.py")) ((679 : Nat))) :: [])))) (#[])
noncomputable def o184K (P : Params) : Obj := Obj.mk (Value.type ("function")) (@Option.none Nat) (Data.func (FuncData.mk (Str.ofString ("_law_names")) (Str.ofString ("_law_names")) f19p (FuncBody.stmts f19b) f19s ((3 : Nat)) (@List.nil (Str × Nat)) (Value.none) (Value.none) (Value.none) (Value.str (Str.ofString ("law_ux0026_02")) ((630 : Nat))) (@Option.none Nat) (Value.ref ((263 : Nat))) (Value.none) ((0 : Nat)))) (#[])
noncomputable def o185K (P : Params) : Obj := Obj.mk (Value.none) (@Option.none Nat) (Data.func (FuncData.mk (Str.ofString ("_law_row")) (Str.ofString ("_law_row")) f20p (FuncBody.stmts f20b) f20s ((0 : Nat)) (@List.nil (Str × Nat)) (Value.none) (Value.none) (Value.none) (Value.none) (@Option.none Nat) (Value.none) (Value.none) ((0 : Nat)))) (#[])
noncomputable def o186K (P : Params) : Obj := Obj.mk (Value.type ("code")) (@Option.none Nat) (Data.fields ((List.toArray ((Value.str (Str.ofString ("_law_row")) ((681 : Nat))) :: (Value.str (Str.ofString ("_law_row")) ((682 : Nat))) :: (Value.str (Str.ofString ("/claim/cut.py")) ((683 : Nat))) :: (Value.int (186) ((0 : Nat))) :: (Value.int (4) ((0 : Nat))) :: (Value.int (0) ((0 : Nat))) :: (Value.int (0) ((0 : Nat))) :: (Value.int (3) ((0 : Nat))) :: (Value.ref ((265 : Nat))) :: (Value.bool (Bool.true)) :: (Value.int (276) ((0 : Nat))) :: (Value.ref ((266 : Nat))) :: (Value.none) :: (Value.none) :: (Value.none) :: (Value.ref ((267 : Nat))) :: (Value.int (684) ((0 : Nat))) :: (Value.int (186) ((0 : Nat))) :: (Value.str (Str.ofString ("/claim/cut.py")) ((685 : Nat))) :: [])))) (#[])
noncomputable def o187K (P : Params) : Obj := Obj.mk (Value.type ("function")) (@Option.none Nat) (Data.func (FuncData.mk (Str.ofString ("_law_row")) (Str.ofString ("_law_row")) f20p (FuncBody.stmts f20b) f20s ((3 : Nat)) (@List.nil (Str × Nat)) (Value.none) (Value.none) (Value.none) (Value.str (Str.ofString ("law_ux0026_02")) ((630 : Nat))) (@Option.none Nat) (Value.ref ((268 : Nat))) (Value.none) ((0 : Nat)))) (#[])
noncomputable def o188K (P : Params) : Obj := Obj.mk (Value.type ("tuple")) (@Option.none Nat) (Data.seq (#[Value.str (Str.ofString ("reply")) ((690 : Nat))]) ((0 : Nat))) (#[])
noncomputable def o189K (P : Params) : Obj := Obj.mk (Value.none) (@Option.none Nat) (Data.func (FuncData.mk (Str.ofString ("_law_refused")) (Str.ofString ("_law_refused")) f21p (FuncBody.stmts f21b) f21s ((0 : Nat)) (@List.nil (Str × Nat)) (Value.none) (Value.none) (Value.none) (Value.none) (@Option.none Nat) (Value.none) (Value.none) ((0 : Nat)))) (#[])
noncomputable def o190K (P : Params) : Obj := Obj.mk (Value.type ("code")) (@Option.none Nat) (Data.fields ((List.toArray ((Value.str (Str.ofString ("_law_refused")) ((687 : Nat))) :: (Value.str (Str.ofString ("_law_refused")) ((688 : Nat))) :: (Value.str (Str.ofString ("/claim/cut.py")) ((689 : Nat))) :: (Value.int (196) ((0 : Nat))) :: (Value.int (1) ((0 : Nat))) :: (Value.int (0) ((0 : Nat))) :: (Value.int (0) ((0 : Nat))) :: (Value.int (3) ((0 : Nat))) :: (Value.ref ((270 : Nat))) :: (Value.bool (Bool.true)) :: (Value.int (276) ((0 : Nat))) :: (Value.ref ((271 : Nat))) :: (Value.none) :: (Value.ref ((272 : Nat))) :: (Value.ref ((273 : Nat))) :: (Value.ref ((274 : Nat))) :: (Value.int (691) ((0 : Nat))) :: (Value.int (196) ((0 : Nat))) :: (Value.str (Str.ofString ("/claim/cut.py")) ((692 : Nat))) :: [])))) (#[])
noncomputable def o191K (P : Params) : Obj := Obj.mk (Value.type ("function")) (@Option.none Nat) (Data.func (FuncData.mk (Str.ofString ("_law_refused")) (Str.ofString ("_law_refused")) f21p (FuncBody.stmts f21b) f21s ((3 : Nat)) (@List.nil (Str × Nat)) (Value.none) (Value.none) (Value.none) (Value.str (Str.ofString ("law_ux0026_02")) ((630 : Nat))) (@Option.none Nat) (Value.ref ((275 : Nat))) (Value.none) ((0 : Nat)))) (#[])
noncomputable def o192K (P : Params) : Obj := Obj.mk (Value.none) (@Option.none Nat) (Data.func (FuncData.mk (Str.ofString ("law")) (Str.ofString ("law")) f22p (FuncBody.stmts f22b) f22s ((0 : Nat)) (@List.nil (Str × Nat)) (Value.none) (Value.none) (Value.none) (Value.none) (@Option.none Nat) (Value.none) (Value.none) ((0 : Nat)))) (#[])
noncomputable def o193K (P : Params) : Obj := Obj.mk (Value.type ("code")) (@Option.none Nat) (Data.fields ((List.toArray ((Value.str (Str.ofString ("law")) ((694 : Nat))) :: (Value.str (Str.ofString ("law")) ((695 : Nat))) :: (Value.str (Str.ofString ("/claim/cut.py")) ((696 : Nat))) :: (Value.int (202) ((0 : Nat))) :: (Value.int (1) ((0 : Nat))) :: (Value.int (0) ((0 : Nat))) :: (Value.int (0) ((0 : Nat))) :: (Value.int (3) ((0 : Nat))) :: (Value.ref ((277 : Nat))) :: (Value.bool (Bool.true)) :: (Value.int (276) ((0 : Nat))) :: (Value.ref ((278 : Nat))) :: (Value.none) :: (Value.none) :: (Value.none) :: (Value.ref ((279 : Nat))) :: (Value.int (697) ((0 : Nat))) :: (Value.int (202) ((0 : Nat))) :: (Value.str (Str.ofString ("/claim/cut.py")) ((698 : Nat))) :: [])))) (#[])
noncomputable def o194K (P : Params) : Obj := Obj.mk (Value.type ("function")) (@Option.none Nat) (Data.func (FuncData.mk (Str.ofString ("law")) (Str.ofString ("law")) f22p (FuncBody.stmts f22b) f22s ((3 : Nat)) (@List.nil (Str × Nat)) (Value.none) (Value.none) (Value.none) (Value.str (Str.ofString ("law_ux0026_02")) ((630 : Nat))) (@Option.none Nat) (Value.ref ((280 : Nat))) (Value.none) ((0 : Nat)))) (#[])
noncomputable def He (x1 x2 : Str) (P : Params) : Heap := Heap.mk (Array.mk (o0K P :: o1K P :: o2K P :: o3K P :: o4K P :: o5K P :: o6K P :: o7K P :: o8K P :: o9K P :: o10K P :: o11K P :: o12K P :: o13K P :: o14K P :: o7K P :: o15K P :: o16K P :: o17K x1 x2 P :: o18K P :: o19K P :: o20K P :: o21K P :: o22K P :: o23K P :: o24K P :: o25K P :: o26K P :: [] : List Obj)) {}
noncomputable def H0 (x1 x2 : Str) (P : Params) : Heap := Heap.mk (Array.mk (o0K P :: o1K P :: o2K P :: o3K P :: o4K P :: o5K P :: o6K P :: o7K P :: o8K P :: o9K P :: o10K P :: o27K P :: o12K P :: o13K P :: o14K P :: o7K P :: o15K P :: o16K P :: o17K x1 x2 P :: o18K P :: o19K P :: o20K P :: o21K P :: o22K P :: o23K P :: o24K P :: o25K P :: o26K P :: [] : List Obj)) {}
noncomputable def Ha (x1 x2 : Str) (P : Params) : Heap := Heap.mk (Array.mk (o0K P :: o1K P :: o2K P :: o3K P :: o4K P :: o5K P :: o6K P :: o7K P :: o8K P :: o9K P :: o10K P :: o27K P :: o12K P :: o13K P :: o14K P :: o7K P :: o15K P :: o16K P :: o17K x1 x2 P :: o18K P :: o19K P :: o20K P :: o21K P :: o22K P :: o23K P :: o24K P :: o25K P :: o26K P :: o7K P :: o8K P :: o28K P :: o29K P :: [] : List Obj)) {}
noncomputable def Hb (x1 x2 : Str) (P : Params) : Heap := Heap.mk (Array.mk (o0K P :: o1K P :: o2K P :: o3K P :: o4K P :: o5K P :: o6K P :: o7K P :: o8K P :: o9K P :: o10K P :: o27K P :: o12K P :: o13K P :: o14K P :: o7K P :: o15K P :: o16K P :: o17K x1 x2 P :: o18K P :: o19K P :: o20K P :: o21K P :: o22K P :: o23K P :: o24K P :: o25K P :: o26K P :: o7K P :: o8K P :: o28K P :: o29K P :: [] : List Obj)) {}
noncomputable def Hg1 (x1 x2 : Str) (P : Params) : Heap := Heap.mk (Array.mk (o0K P :: o1K P :: o30K P :: o31K P :: o4K P :: o5K P :: o6K P :: o7K P :: o8K P :: o9K P :: o10K P :: o27K P :: o12K P :: o13K P :: o14K P :: o7K P :: o15K P :: o16K P :: o17K x1 x2 P :: o18K P :: o19K P :: o20K P :: o21K P :: o22K P :: o23K P :: o24K P :: o25K P :: o26K P :: o7K P :: o32K P :: o28K P :: o29K P :: o7K P :: o8K P :: o33K P :: o7K P :: o34K P :: o35K P :: o36K P :: o37K P :: o38K P :: o39K P :: o7K P :: o8K P :: o40K P :: o41K P :: o7K P :: o42K P :: o43K P :: o44K P :: o45K P :: o46K P :: [] : List Obj)) {}
noncomputable def Hg2 (x1 x2 : Str) (P : Params) : Heap := Heap.mk (Array.mk (o0K P :: o1K P :: o30K P :: o47K P :: o4K P :: o5K P :: o6K P :: o7K P :: o8K P :: o9K P :: o10K P :: o27K P :: o12K P :: o13K P :: o14K P :: o7K P :: o15K P :: o16K P :: o17K x1 x2 P :: o18K P :: o19K P :: o20K P :: o21K P :: o22K P :: o23K P :: o24K P :: o25K P :: o26K P :: o7K P :: o48K P :: o28K P :: o29K P :: o7K P :: o8K P :: o33K P :: o7K P :: o34K P :: o35K P :: o36K P :: o37K P :: o38K P :: o39K P :: o7K P :: o8K P :: o40K P :: o41K P :: o7K P :: o42K P :: o49K P :: o44K P :: o45K P :: o46K P :: o50K P :: o38K P :: o51K P :: o7K P :: o8K P :: o52K P :: o53K P :: o7K P :: o54K P :: o55K P :: o56K P :: o57K P :: o7K P :: o8K P :: o58K P :: o7K P :: o59K P :: o60K P :: o61K P :: o62K P :: o63K P :: o7K P :: o8K P :: o64K P :: o7K P :: o65K P :: o66K P :: o67K P :: o68K P :: o69K P :: o7K P :: o8K P :: o70K P :: o7K P :: o71K P :: o72K P :: o73K P :: [] : List Obj)) {}
noncomputable def Hg3 (x1 x2 : Str) (P : Params) : Heap := Heap.mk (Array.mk (o0K P :: o1K P :: o30K P :: o74K P :: o4K P :: o5K P :: o6K P :: o7K P :: o8K P :: o9K P :: o10K P :: o27K P :: o12K P :: o13K P :: o14K P :: o7K P :: o15K P :: o16K P :: o17K x1 x2 P :: o18K P :: o19K P :: o20K P :: o21K P :: o22K P :: o23K P :: o24K P :: o25K P :: o26K P :: o7K P :: o75K P :: o28K P :: o29K P :: o7K P :: o8K P :: o33K P :: o7K P :: o34K P :: o35K P :: o36K P :: o37K P :: o38K P :: o39K P :: o7K P :: o8K P :: o40K P :: o41K P :: o7K P :: o42K P :: o49K P :: o44K P :: o45K P :: o46K P :: o50K P :: o38K P :: o51K P :: o7K P :: o8K P :: o52K P :: o53K P :: o7K P :: o54K P :: o55K P :: o56K P :: o57K P :: o7K P :: o8K P :: o58K P :: o7K P :: o59K P :: o60K P :: o61K P :: o62K P :: o63K P :: o7K P :: o8K P :: o64K P :: o7K P :: o65K P :: o66K P :: o67K P :: o68K P :: o69K P :: o7K P :: o8K P :: o70K P :: o7K P :: o71K P :: o72K P :: o73K P :: o76K P :: o6K P :: o77K P :: o78K P :: o79K P :: o80K P :: o6K P :: o77K P :: o81K P :: o82K P :: o83K P :: o6K P :: o77K P :: o84K P :: o85K P :: o86K P :: o7K P :: o8K P :: o87K P :: o7K P :: o88K P :: o89K P :: o90K P :: [] : List Obj)) {}
noncomputable def Hg4 (x1 x2 : Str) (P : Params) : Heap := Heap.mk (Array.mk (o0K P :: o1K P :: o30K P :: o91K P :: o4K P :: o5K P :: o6K P :: o7K P :: o8K P :: o9K P :: o10K P :: o27K P :: o12K P :: o13K P :: o14K P :: o7K P :: o15K P :: o16K P :: o17K x1 x2 P :: o18K P :: o19K P :: o20K P :: o21K P :: o22K P :: o23K P :: o24K P :: o25K P :: o26K P :: o7K P :: o92K P :: o28K P :: o29K P :: o7K P :: o8K P :: o33K P :: o7K P :: o34K P :: o35K P :: o36K P :: o37K P :: o38K P :: o39K P :: o7K P :: o8K P :: o40K P :: o41K P :: o7K P :: o42K P :: o49K P :: o44K P :: o45K P :: o46K P :: o50K P :: o38K P :: o51K P :: o7K P :: o8K P :: o52K P :: o53K P :: o7K P :: o54K P :: o55K P :: o56K P :: o57K P :: o7K P :: o8K P :: o58K P :: o7K P :: o59K P :: o60K P :: o61K P :: o62K P :: o63K P :: o7K P :: o8K P :: o64K P :: o7K P :: o65K P :: o66K P :: o67K P :: o68K P :: o69K P :: o7K P :: o8K P :: o70K P :: o7K P :: o71K P :: o72K P :: o73K P :: o76K P :: o6K P :: o77K P :: o78K P :: o79K P :: o80K P :: o6K P :: o77K P :: o81K P :: o82K P :: o83K P :: o6K P :: o77K P :: o84K P :: o85K P :: o86K P :: o7K P :: o8K P :: o87K P :: o7K P :: o88K P :: o89K P :: o90K P :: o7K P :: o38K P :: o93K P :: o7K P :: o94K P :: o95K P :: o96K P :: o77K P :: o7K P :: o8K P :: o97K P :: o7K P :: o98K P :: o99K P :: o100K P :: o7K P :: o8K P :: o101K P :: o7K P :: o102K P :: o103K P :: o104K P :: o7K P :: o8K P :: o105K P :: o7K P :: o106K P :: o107K P :: o108K P :: o7K P :: o8K P :: o109K P :: o7K P :: o110K P :: o111K P :: o112K P :: o7K P :: o8K P :: o113K P :: o114K P :: o115K P :: o7K P :: o8K P :: o116K P :: o7K P :: o117K P :: o118K P :: o119K P :: o7K P :: o8K P :: o120K P :: o7K P :: o121K P :: o122K P :: o123K P :: o7K P :: o8K P :: o124K P :: o125K P :: o126K P :: o77K P :: o7K P :: o8K P :: o127K P :: o7K P :: o128K P :: o129K P :: o130K P :: o7K P :: o8K P :: o131K P :: o132K P :: o133K P :: o7K P :: o8K P :: o134K P :: o135K P :: o136K P :: o7K P :: o8K P :: o137K P :: o7K P :: o138K P :: o139K P :: o140K P :: o7K P :: o8K P :: o141K P :: o7K P :: o142K P :: o143K P :: o144K P :: o7K P :: o8K P :: o145K P :: o146K P :: o147K P :: o7K P :: o8K P :: o148K P :: o7K P :: o149K P :: o150K P :: o151K P :: o7K P :: o8K P :: o152K P :: o7K P :: o153K P :: o154K P :: o155K P :: o7K P :: o8K P :: o156K P :: o7K P :: o157K P :: o158K P :: o159K P :: o160K P :: o161K P :: o162K P :: o163K P :: o164K P :: o165K P :: o166K P :: [] : List Obj)) {}
noncomputable def Hg5 (x1 x2 : Str) (P : Params) : Heap := Heap.mk (Array.mk (o0K P :: o1K P :: o30K P :: o167K P :: o4K P :: o5K P :: o6K P :: o7K P :: o8K P :: o9K P :: o10K P :: o27K P :: o12K P :: o13K P :: o14K P :: o7K P :: o15K P :: o16K P :: o17K x1 x2 P :: o18K P :: o19K P :: o20K P :: o21K P :: o22K P :: o23K P :: o24K P :: o25K P :: o26K P :: o7K P :: o168K P :: o28K P :: o29K P :: o7K P :: o8K P :: o33K P :: o7K P :: o34K P :: o35K P :: o36K P :: o37K P :: o38K P :: o39K P :: o7K P :: o8K P :: o40K P :: o41K P :: o7K P :: o42K P :: o49K P :: o44K P :: o45K P :: o46K P :: o50K P :: o38K P :: o51K P :: o7K P :: o8K P :: o52K P :: o53K P :: o7K P :: o54K P :: o55K P :: o56K P :: o57K P :: o7K P :: o8K P :: o58K P :: o7K P :: o59K P :: o60K P :: o61K P :: o62K P :: o63K P :: o7K P :: o8K P :: o64K P :: o7K P :: o65K P :: o66K P :: o67K P :: o68K P :: o69K P :: o7K P :: o8K P :: o70K P :: o7K P :: o71K P :: o72K P :: o73K P :: o76K P :: o6K P :: o77K P :: o78K P :: o79K P :: o80K P :: o6K P :: o77K P :: o81K P :: o82K P :: o83K P :: o6K P :: o77K P :: o84K P :: o85K P :: o86K P :: o7K P :: o8K P :: o87K P :: o7K P :: o88K P :: o89K P :: o90K P :: o7K P :: o38K P :: o93K P :: o7K P :: o94K P :: o95K P :: o96K P :: o77K P :: o7K P :: o8K P :: o97K P :: o7K P :: o98K P :: o99K P :: o100K P :: o7K P :: o8K P :: o101K P :: o7K P :: o102K P :: o103K P :: o104K P :: o7K P :: o8K P :: o105K P :: o7K P :: o106K P :: o107K P :: o108K P :: o7K P :: o8K P :: o109K P :: o7K P :: o110K P :: o111K P :: o112K P :: o7K P :: o8K P :: o113K P :: o114K P :: o115K P :: o7K P :: o8K P :: o116K P :: o7K P :: o117K P :: o118K P :: o119K P :: o7K P :: o8K P :: o120K P :: o7K P :: o121K P :: o122K P :: o123K P :: o7K P :: o8K P :: o124K P :: o125K P :: o126K P :: o77K P :: o7K P :: o8K P :: o127K P :: o7K P :: o128K P :: o129K P :: o130K P :: o7K P :: o8K P :: o131K P :: o132K P :: o133K P :: o7K P :: o8K P :: o134K P :: o135K P :: o136K P :: o7K P :: o8K P :: o137K P :: o7K P :: o138K P :: o139K P :: o140K P :: o7K P :: o8K P :: o141K P :: o7K P :: o142K P :: o143K P :: o144K P :: o7K P :: o8K P :: o145K P :: o146K P :: o147K P :: o7K P :: o8K P :: o148K P :: o7K P :: o149K P :: o150K P :: o151K P :: o7K P :: o8K P :: o152K P :: o7K P :: o153K P :: o154K P :: o155K P :: o7K P :: o8K P :: o156K P :: o7K P :: o157K P :: o158K P :: o159K P :: o160K P :: o161K P :: o162K P :: o163K P :: o164K P :: o165K P :: o166K P :: o7K P :: o8K P :: o169K P :: o7K P :: o170K P :: o171K P :: o172K P :: o7K P :: o8K P :: o173K P :: o7K P :: o174K P :: o175K P :: o176K P :: o7K P :: o8K P :: o177K P :: o7K P :: o178K P :: o179K P :: o180K P :: o7K P :: o8K P :: o181K P :: o7K P :: o182K P :: o183K P :: o184K P :: o7K P :: o8K P :: o185K P :: o186K P :: o187K P :: o7K P :: o8K P :: o188K P :: o7K P :: o189K P :: o190K P :: o191K P :: o7K P :: o8K P :: o192K P :: o193K P :: o194K P :: [] : List Obj)) {}
noncomputable def Hf (x1 x2 : Str) (P : Params) : Heap := Heap.mk (Array.mk (o0K P :: o1K P :: o30K P :: o167K P :: o4K P :: o5K P :: o6K P :: o7K P :: o8K P :: o9K P :: o10K P :: o27K P :: o12K P :: o13K P :: o14K P :: o7K P :: o15K P :: o16K P :: o17K x1 x2 P :: o18K P :: o19K P :: o20K P :: o21K P :: o22K P :: o23K P :: o24K P :: o25K P :: o26K P :: o7K P :: o168K P :: o28K P :: o29K P :: o7K P :: o8K P :: o33K P :: o7K P :: o34K P :: o35K P :: o36K P :: o37K P :: o38K P :: o39K P :: o7K P :: o8K P :: o40K P :: o41K P :: o7K P :: o42K P :: o49K P :: o44K P :: o45K P :: o46K P :: o50K P :: o38K P :: o51K P :: o7K P :: o8K P :: o52K P :: o53K P :: o7K P :: o54K P :: o55K P :: o56K P :: o57K P :: o7K P :: o8K P :: o58K P :: o7K P :: o59K P :: o60K P :: o61K P :: o62K P :: o63K P :: o7K P :: o8K P :: o64K P :: o7K P :: o65K P :: o66K P :: o67K P :: o68K P :: o69K P :: o7K P :: o8K P :: o70K P :: o7K P :: o71K P :: o72K P :: o73K P :: o76K P :: o6K P :: o77K P :: o78K P :: o79K P :: o80K P :: o6K P :: o77K P :: o81K P :: o82K P :: o83K P :: o6K P :: o77K P :: o84K P :: o85K P :: o86K P :: o7K P :: o8K P :: o87K P :: o7K P :: o88K P :: o89K P :: o90K P :: o7K P :: o38K P :: o93K P :: o7K P :: o94K P :: o95K P :: o96K P :: o77K P :: o7K P :: o8K P :: o97K P :: o7K P :: o98K P :: o99K P :: o100K P :: o7K P :: o8K P :: o101K P :: o7K P :: o102K P :: o103K P :: o104K P :: o7K P :: o8K P :: o105K P :: o7K P :: o106K P :: o107K P :: o108K P :: o7K P :: o8K P :: o109K P :: o7K P :: o110K P :: o111K P :: o112K P :: o7K P :: o8K P :: o113K P :: o114K P :: o115K P :: o7K P :: o8K P :: o116K P :: o7K P :: o117K P :: o118K P :: o119K P :: o7K P :: o8K P :: o120K P :: o7K P :: o121K P :: o122K P :: o123K P :: o7K P :: o8K P :: o124K P :: o125K P :: o126K P :: o77K P :: o7K P :: o8K P :: o127K P :: o7K P :: o128K P :: o129K P :: o130K P :: o7K P :: o8K P :: o131K P :: o132K P :: o133K P :: o7K P :: o8K P :: o134K P :: o135K P :: o136K P :: o7K P :: o8K P :: o137K P :: o7K P :: o138K P :: o139K P :: o140K P :: o7K P :: o8K P :: o141K P :: o7K P :: o142K P :: o143K P :: o144K P :: o7K P :: o8K P :: o145K P :: o146K P :: o147K P :: o7K P :: o8K P :: o148K P :: o7K P :: o149K P :: o150K P :: o151K P :: o7K P :: o8K P :: o152K P :: o7K P :: o153K P :: o154K P :: o155K P :: o7K P :: o8K P :: o156K P :: o7K P :: o157K P :: o158K P :: o159K P :: o160K P :: o161K P :: o162K P :: o163K P :: o164K P :: o165K P :: o166K P :: o7K P :: o8K P :: o169K P :: o7K P :: o170K P :: o171K P :: o172K P :: o7K P :: o8K P :: o173K P :: o7K P :: o174K P :: o175K P :: o176K P :: o7K P :: o8K P :: o177K P :: o7K P :: o178K P :: o179K P :: o180K P :: o7K P :: o8K P :: o181K P :: o7K P :: o182K P :: o183K P :: o184K P :: o7K P :: o8K P :: o185K P :: o186K P :: o187K P :: o7K P :: o8K P :: o188K P :: o7K P :: o189K P :: o190K P :: o191K P :: o7K P :: o8K P :: o192K P :: o193K P :: o194K P :: [] : List Obj)) {}
noncomputable def bodK : List Stmt := behindTheImports PySem.Challenge.pw_ux0026_02
noncomputable def envTK : Env := { scope := (PySem.Challenge.pw_ux0026_02).main.scope, locals := mainNs, globals := mainNs, cells := [], code := Value.ref ((30 : Nat)), frame := some 31 }
noncomputable def codTK : Code := .body bodK envTK
abbrev posTK : Pos := Pos.mk ((0 : Nat)) ((0 : Nat)) ((0 : Nat)) ((0 : Nat))
def pickK (i j : Nat) (s : Option Shared) : Str := match s with | some s => (match s.heap.objs.toList[i]? with | some ⟨_, _, .seq vs _, _⟩ => (match vs.toList[j]? with | some (.str x _) => x | _ => default) | _ => default) | none => default
theorem open_h (w : World) : importEnds treeTable (opening PySem.Challenge.pw_ux0026_02) w 3702 (start (opening PySem.Challenge.pw_ux0026_02)).1 (start (opening PySem.Challenge.pw_ux0026_02)).2 = some (⟨He (pickK 18 1 (importEnds treeTable (opening PySem.Challenge.pw_ux0026_02) w 3702 (start (opening PySem.Challenge.pw_ux0026_02)).1 (start (opening PySem.Challenge.pw_ux0026_02)).2)) (pickK 18 6 (importEnds treeTable (opening PySem.Challenge.pw_ux0026_02) w 3702 (start (opening PySem.Challenge.pw_ux0026_02)).1 (start (opening PySem.Challenge.pw_ux0026_02)).2)) w.params, Array.mk [], {}, 276, (start (opening PySem.Challenge.pw_ux0026_02)).1.os⟩ : Shared) := by
  rw [PySem.W.Fast.te10274390034422433532, PySem.W.Fast.te14364793385576792824, PySem.W.Fast.te1435165496053646825]
  kernel_rfl
theorem open_f (w : World) (os : OsState) (x1 x2 : Str) : fenceModules? PySem.Challenge.pw_ux0026_02 (⟨He x1 x2 w.params, Array.mk [], {}, 276, os⟩ : Shared) = some (⟨H0 x1 x2 w.params, Array.mk [], {}, 276, os⟩ : Shared) := by
  rw [PySem.W.Fast.te14289696077712309145]
  kernel_rfl
theorem size_p (w : World) (x1 x2 : Str) : ((H0 x1 x2 w.params).isNs mainGlobals && (Array.mk [] : Array GenState).size == 0, (H0 x1 x2 w.params).objs.size, (H0 x1 x2 w.params).nsMap mainGlobals "__annotations__") = (true, 28, some (Value.ref 6)) := by
  kernel_rfl
theorem pre_p (w : World) (os : OsState) (x1 x2 : Str) : topGo treeTable PySem.Challenge.pw_ux0026_02 w 28 (some (Value.ref 6)) 12 (⟨H0 x1 x2 w.params, Array.mk [], {}, 276, os⟩ : Shared) (topStub PySem.Challenge.pw_ux0026_02) = some ((⟨Ha x1 x2 w.params, Array.mk [], {}, 282, os⟩ : Shared), Thread.mk (denote treeTable codTK) codTK (Pos.mk ((0 : Nat)) ((0 : Nat)) ((0 : Nat)) ((0 : Nat))) [topFrame posTK]) := by
  rw [PySem.W.Fast.te15667345088766844465, PySem.W.Fast.te11892475500146522536, PySem.W.Fast.te14364793385576792824]
  kernel_rfl
theorem block_p (w : World) (os : OsState) (x1 x2 : Str) : segRun treeTable PySem.Challenge.pw_ux0026_02 w 28 (some (Value.ref 6)) 1 1 (⟨Ha x1 x2 w.params, Array.mk [], {}, 282, os⟩ : Shared) (blockOf bodK envTK codTK (Pos.mk ((0 : Nat)) ((0 : Nat)) ((0 : Nat)) ((0 : Nat))) [topFrame posTK]) = some (.next, (⟨Hb x1 x2 w.params, Array.mk [], {}, 282, os⟩ : Shared), codTK, Pos.mk ((0 : Nat)) ((0 : Nat)) ((0 : Nat)) ((0 : Nat))) := by
  rw [PySem.W.Fast.te14374325043358763698]
  kernel_rfl
noncomputable def b1K : List Stmt := (bodK.drop 0).take 3
theorem g1_p (w : World) (os : OsState) (x1 x2 : Str) : segRun treeTable PySem.Challenge.pw_ux0026_02 w 28 (some (Value.ref 6)) 1 235 (⟨Hb x1 x2 w.params, Array.mk [], {}, 282, os⟩ : Shared) (piecesOf b1K envTK codTK (Pos.mk ((0 : Nat)) ((0 : Nat)) ((0 : Nat)) ((0 : Nat))) [topFrame posTK]) = some (.next, (⟨Hg1 x1 x2 w.params, Array.mk [], {}, 311, os⟩ : Shared), codTK, Pos.mk ((6 : Nat)) ((0 : Nat)) ((7 : Nat)) ((8 : Nat))) := by
  rw [PySem.W.Fast.te14374325043358763698, PySem.W.Fast.te14364793385576792824]
  kernel_rfl
noncomputable def b2K : List Stmt := (bodK.drop 3).take 6
theorem g2_p (w : World) (os : OsState) (x1 x2 : Str) : segRun treeTable PySem.Challenge.pw_ux0026_02 w 28 (some (Value.ref 6)) 1 346 (⟨Hg1 x1 x2 w.params, Array.mk [], {}, 311, os⟩ : Shared) (piecesOf b2K envTK codTK (Pos.mk ((6 : Nat)) ((0 : Nat)) ((7 : Nat)) ((8 : Nat))) [topFrame posTK]) = some (.next, (⟨Hg2 x1 x2 w.params, Array.mk [], {}, 369, os⟩ : Shared), codTK, Pos.mk ((54 : Nat)) ((0 : Nat)) ((54 : Nat)) ((8 : Nat))) := by
  rw [PySem.W.Fast.te14374325043358763698, PySem.W.Fast.te14364793385576792824]
  kernel_rfl
noncomputable def b3K : List Stmt := (bodK.drop 9).take 4
theorem g3_p (w : World) (os : OsState) (x1 x2 : Str) : segRun treeTable PySem.Challenge.pw_ux0026_02 w 28 (some (Value.ref 6)) 1 257 (⟨Hg2 x1 x2 w.params, Array.mk [], {}, 369, os⟩ : Shared) (piecesOf b3K envTK codTK (Pos.mk ((54 : Nat)) ((0 : Nat)) ((54 : Nat)) ((8 : Nat))) [topFrame posTK]) = some (.next, (⟨Hg3 x1 x2 w.params, Array.mk [], {}, 473, os⟩ : Shared), codTK, Pos.mk ((58 : Nat)) ((0 : Nat)) ((66 : Nat)) ((20 : Nat))) := by
  rw [PySem.W.Fast.te14374325043358763698, PySem.W.Fast.te14364793385576792824]
  kernel_rfl
noncomputable def b4K : List Stmt := (bodK.drop 13).take 1
theorem g4_p (w : World) (os : OsState) (x1 x2 : Str) : segRun treeTable PySem.Challenge.pw_ux0026_02 w 28 (some (Value.ref 6)) 1 727 (⟨Hg3 x1 x2 w.params, Array.mk [], {}, 473, os⟩ : Shared) (piecesOf b4K envTK codTK (Pos.mk ((58 : Nat)) ((0 : Nat)) ((66 : Nat)) ((20 : Nat))) [topFrame posTK]) = some (.next, (⟨Hg4 x1 x2 w.params, Array.mk [], {}, 630, os⟩ : Shared), codTK, Pos.mk ((67 : Nat)) ((0 : Nat)) ((148 : Nat)) ((93 : Nat))) := by
  rw [PySem.W.Fast.te14374325043358763698, PySem.W.Fast.te14364793385576792824]
  kernel_rfl
noncomputable def b5K : List Stmt := (bodK.drop 14).take 8
theorem g5_p (w : World) (os : OsState) (x1 x2 : Str) : segRun treeTable PySem.Challenge.pw_ux0026_02 w 28 (some (Value.ref 6)) 1 228 (⟨Hg4 x1 x2 w.params, Array.mk [], {}, 630, os⟩ : Shared) (piecesOf b5K envTK codTK (Pos.mk ((67 : Nat)) ((0 : Nat)) ((148 : Nat)) ((93 : Nat))) [topFrame posTK]) = some (.next, (⟨Hg5 x1 x2 w.params, Array.mk [], {}, 700, os⟩ : Shared), codTK, Pos.mk ((202 : Nat)) ((0 : Nat)) ((244 : Nat)) ((91 : Nat))) := by
  rw [PySem.W.Fast.te14374325043358763698, PySem.W.Fast.te14364793385576792824]
  kernel_rfl
theorem fin_p (w : World) (os : OsState) (x1 x2 : Str) : topRun treeTable PySem.Challenge.pw_ux0026_02 w 28 (some (Value.ref 6)) 2 (⟨Hg5 x1 x2 w.params, Array.mk [], {}, 700, os⟩ : Shared) (Thread.mk (doneF .next) codTK (Pos.mk ((202 : Nat)) ((0 : Nat)) ((244 : Nat)) ((91 : Nat))) [topFrame posTK]) = some (⟨Hf x1 x2 w.params, Array.mk [], {}, 700, os⟩ : Shared) := by
  rw [PySem.W.Fast.te14082659384304107361]
  kernel_rfl
theorem parts_p : (b1K ++ (b2K ++ (b3K ++ (b4K ++ (b5K ++ []))))) = bodK := by kernel_rfl
theorem run_p (w : World) (os : OsState) (x1 x2 : Str) : topRun treeTable PySem.Challenge.pw_ux0026_02 w 28 (some (Value.ref 6)) (12 + (1 + (235 + (346 + (257 + (727 + (228 + (2)))))))) (⟨H0 x1 x2 w.params, Array.mk [], {}, 276, os⟩ : Shared) (topStub PySem.Challenge.pw_ux0026_02) = some (⟨Hf x1 x2 w.params, Array.mk [], {}, 700, os⟩ : Shared) := by
  refine go_top (pre_p w os x1 x2) (piece_block (block_p w os x1 x2) ?_)
  have k := piece_app (g1_p w os x1 x2) (piece_app (g2_p w os x1 x2) (piece_app (g3_p w os x1 x2) (piece_app (g4_p w os x1 x2) (piece_app (g5_p w os x1 x2) (piece_nil (fin_p w os x1 x2))))))
  rw [parts_p] at k
  exact k
theorem look_1 (w : World) (os : OsState) (x1 x2 : Str) : (staticsOk (importedModules (PySem.Challenge.pw_ux0026_02).main.body) (H0 x1 x2 w.params) (Hf x1 x2 w.params)) = true := by
  rw [PySem.W.Fast.te5923862056798008813]
  kernel_rfl
theorem look_2 (w : World) (os : OsState) (x1 x2 : Str) : (namesBound PySem.Challenge.pw_ux0026_02 (Hf x1 x2 w.params)) = true := by
  kernel_rfl
theorem look_3 (w : World) (os : OsState) (x1 x2 : Str) : (gensDone (⟨Hf x1 x2 w.params, Array.mk [], {}, 700, os⟩ : Shared)) = true := by
  kernel_rfl
theorem look_4 (w : World) (os : OsState) (x1 x2 : Str) : (laidKept (H0 x1 x2 w.params) (Hf x1 x2 w.params)) = true := by
  kernel_rfl
theorem look_5 (w : World) (os : OsState) (x1 x2 : Str) : (seen ((recsOf viewK).map (·.name)) (ownsOf viewK) [] { (⟨Hf x1 x2 w.params, Array.mk [], {}, 700, os⟩ : Shared) with gens := #[] }) = expectedOf viewK := by
  rw [PySem.W.Fast.te5160383126252970620, PySem.W.Fast.te3399658132070893891, PySem.W.Fast.te5991557255702980513]
  kernel_rfl
theorem look_6 (w : World) (os : OsState) (x1 x2 : Str) : ((⟨Hf x1 x2 w.params, Array.mk [], {}, 700, os⟩ : Shared).heap.bltView) = bltViewBooted := by
  kernel_rfl
theorem look_7 (w : World) (os : OsState) (x1 x2 : Str) : ((⟨Hf x1 x2 w.params, Array.mk [], {}, 700, os⟩ : Shared).heap.keysOk (looseW viewK looseK) ((recsOf viewK).map (·.name)) ((litsOf viewK).map (·.1)) ((clssOf viewK (looseW viewK looseK)).map (·.name))) = true := by
  rw [PySem.W.Fast.te10880121769531294198, PySem.W.Fast.te3399658132070893891, PySem.W.Fast.te7409074990110511671, PySem.W.Fast.te13664370479719496447]
  kernel_rfl
theorem look_8 (w : World) (os : OsState) (x1 x2 : Str) : ((⟨Hf x1 x2 w.params, Array.mk [], {}, 700, os⟩ : Shared).heap.accountedOkI (importedModules (PySem.Challenge.pw_ux0026_02).main.body)) = true := by
  rw [PySem.W.Fast.te14722251495701143533, PySem.W.Fast.te5923862056798008813]
  kernel_rfl
theorem look_9 (w : World) (os : OsState) (x1 x2 : Str) : ((⟨Hf x1 x2 w.params, Array.mk [], {}, 700, os⟩ : Shared).heap.isNs mainGlobals) = true := by
  kernel_rfl
theorem look_10 (w : World) (os : OsState) (x1 x2 : Str) : ((⟨Hf x1 x2 w.params, Array.mk [], {}, 700, os⟩ : Shared).heap.isNs builtinsNs) = true := by
  kernel_rfl
theorem look_11 (w : World) (os : OsState) (x1 x2 : Str) : (tablesOk viewK (⟨Hf x1 x2 w.params, Array.mk [], {}, 700, os⟩ : Shared).heap) = true := by
  rw [PySem.W.Fast.te10994771534591457954]
  kernel_rfl
theorem look_12 (w : World) (os : OsState) (x1 x2 : Str) : ((xlAt viewK [] (⟨Hf x1 x2 w.params, Array.mk [], {}, 700, os⟩ : Shared) && recOk (RowW.records (OpenRow.toRowW (PySem.Challenge.rw_ux0026_02).row)) (⟨Hf x1 x2 w.params, Array.mk [], {}, 700, os⟩ : Shared))) = true := by
  kernel_rfl
theorem look_13 (w : World) (os : OsState) (x1 x2 : Str) : (tabsOk viewK (⟨Hf x1 x2 w.params, Array.mk [], {}, 700, os⟩ : Shared)) = true := by
  rw [PySem.W.Fast.te479339242167458305]
  kernel_rfl
theorem look_14 (w : World) (os : OsState) (x1 x2 : Str) : (pinSeenD viewK (drecsOf viewK) (⟨Hf x1 x2 w.params, Array.mk [], {}, 700, os⟩ : Shared)) = pinGoodD (drecsOf viewK) := by
  rw [PySem.W.Fast.te16090120013241838585, PySem.W.Fast.te3247288618530077131]
  kernel_rfl
theorem look_15 (w : World) (os : OsState) (x1 x2 : Str) : (plainSeenE viewK (looseW viewK looseK) (⟨Hf x1 x2 w.params, Array.mk [], {}, 700, os⟩ : Shared)) = plainGoodE viewK (looseW viewK looseK) := by
  rw [PySem.W.Fast.te2386780881361962483]
  kernel_rfl
theorem look_16 (w : World) (os : OsState) (x1 x2 : Str) : (plainSeenD viewK looseK (⟨Hf x1 x2 w.params, Array.mk [], {}, 700, os⟩ : Shared)) = plainGoodD viewK looseK := by
  rw [PySem.W.Fast.te11698064438423848299]
  kernel_rfl
theorem look_17 (w : World) (os : OsState) (x1 x2 : Str) : (wideSeen viewK (⟨Hf x1 x2 w.params, Array.mk [], {}, 700, os⟩ : Shared)) = wideGood viewK := by
  rw [PySem.W.Fast.te7317090234206586261]
  kernel_rfl
theorem look_18 (w : World) (os : OsState) (x1 x2 : Str) : (clsSeenW viewK looseK (⟨Hf x1 x2 w.params, Array.mk [], {}, 700, os⟩ : Shared)) = clsGoodW viewK looseK := by
  rw [PySem.W.Fast.te7369524293546568484]
  kernel_rfl
theorem look_19 (w : World) (os : OsState) (x1 x2 : Str) : (Hook.obs (kHook heapK addrsK (fun _ => by kernel_rfl)) (⟨Hf x1 x2 w.params, Array.mk [], {}, 700, os⟩ : Shared)) = Hook.val (kHook heapK addrsK (fun _ => by kernel_rfl)) w := by
  kernel_rfl
theorem pair_eq {α β : Type} {a a' : α} {b b' : β} (h : a = a') (k : b = b') : (a, b) = (a', b') := by rw [h, k]
theorem left_of {p q : Program} {loose : List Str} {Xt : Shared → Bool} {α : Type} {Yf : Shared → α} {Ya : World → α} {N M m : Nat} {w : World} {s s₀ s₁ : Shared} {a : Option Value}
    (h : importEnds treeTable (opening p) w N (start (opening p)).1 (start (opening p)).2 = some s) (f : fenceModules? p s = some s₀)
    (z : (s₀.heap.isNs mainGlobals && s₀.gens.size == 0, s₀.heap.objs.size, s₀.heap.nsMap mainGlobals "__annotations__") = (true, m, a))
    (r : topRun treeTable p w m a M s₀ (topStub p) = some s₁) (le : Nat.ble M N = true)
    (l : (staticsOk (importedModules p.main.body) s₀.heap s₁.heap && namesBound p s₁.heap && gensDone s₁ && laidKept s₀.heap s₁.heap) = true)
    (g : openSeen q loose (importedModules p.main.body) Xt true s₁ = openGood q loose) (y : Yf s₁ = Ya w) :
    (openEnds treeTable p w N).map (fun s => (openSeen q loose (importedModules p.main.body) Xt true s, Yf s)) = some (openGood q loose, Ya w) := by
  have z1 := congrArg Prod.fst z
  have z2 := congrArg (fun x => x.2.1) z
  have z3 := congrArg (fun x => x.2.2) z
  dsimp only at z1 z2 z3
  have r' := topRun_mono (N - M) _ _ _ _ r
  rw [show M + (N - M) = N by have := Nat.le_of_ble_eq_true le; omega] at r'
  have t : topFrom treeTable p w N s₀ = some s₁ := by
    unfold topFrom
    rw [z1, z2, z3, r']
    dsimp only [Option.bind]
    rw [l]
  have o : openEnds treeTable p w N = some s₁ := by
    unfold openEnds fencedOpening
    rw [h]
    show (fenceModules? p s).bind _ = _
    rw [f]
    exact t
  rw [o]
  exact congrArg some (Prod.ext g y)
theorem left_hd : LeftO PySem.Challenge.pw_ux0026_02 viewK looseK (fun s => xlAt viewK [] s && recOk (RowW.records (OpenRow.toRowW (PySem.Challenge.rw_ux0026_02).row)) s) (Hook.obs (kHook heapK addrsK (fun _ => by kernel_rfl))) (Hook.val (kHook heapK addrsK (fun _ => by kernel_rfl))) 3702 := by
  intro w
  obtain ⟨os, x1, x2, h⟩ : ∃ (os : OsState) (x1 x2 : Str) , importEnds treeTable (opening PySem.Challenge.pw_ux0026_02) w 3702 (start (opening PySem.Challenge.pw_ux0026_02)).1 (start (opening PySem.Challenge.pw_ux0026_02)).2 = some (⟨He x1 x2 w.params, Array.mk [], {}, 276, os⟩ : Shared) := ⟨_, _, _, open_h w⟩
  refine left_of (M := (12 + (1 + (235 + (346 + (257 + (727 + (228 + (2))))))))) h (open_f w os x1 x2) (size_p w x1 x2) (run_p w os x1 x2) (by rfl) ?_ ?_ (look_19 w os x1 x2)
  · exact look_both (look_both (look_both (look_1 w os x1 x2) (look_2 w os x1 x2)) (look_3 w os x1 x2)) (look_4 w os x1 x2)
  · delta openSeen openGood
    exact pair_eq (look_5 w os x1 x2) (pair_eq (look_6 w os x1 x2) (pair_eq (look_both (look_both (look_both (look_both (look_both (look_both (look_7 w os x1 x2) (look_8 w os x1 x2)) (look_9 w os x1 x2)) (look_10 w os x1 x2)) (look_11 w os x1 x2)) (look_12 w os x1 x2)) rfl) (pair_eq (look_13 w os x1 x2) (pair_eq (look_14 w os x1 x2) (pair_eq (look_15 w os x1 x2) (pair_eq (look_16 w os x1 x2) (pair_eq (look_17 w os x1 x2) (look_18 w os x1 x2))))))))
theorem ws_hd : (PySem.Challenge.rw_ux0026_02).wellSaid = true := by
  delta OpenLaw.wellSaid OpenRow.wellSaid OpenRow.partSaid looksOpen
  show (_ && _) = true
  repeat' with_reducible refine look_both ?_ ?_
  all_goals decide +kernel
theorem names_hd : namesOk viewK (looseW viewK looseK) (namesW viewK looseK) = true := by
  rw [PySem.W.Fast.te17448422675489707002, PySem.W.Fast.te821141287760084731]
  kernel_rfl
theorem imps_hd : importsNone viewK = true := by
  rw [PySem.W.Fast.te2458874890965802552]
  kernel_rfl
theorem hd (walk : WalkO viewK looseK (XL viewK []) (Hook.says (kHook heapK addrsK (fun _ => by kernel_rfl))) (OpenRow.toRowW (PySem.Challenge.rw_ux0026_02).row) recLaw [] fun f vs => PySem.call f vs) : (PySem.Challenge.rw_ux0026_02).Holds := by
  refine holds_law ws_hd fun said => ?_
  exact holds_open left_hd (Hook.of _) (Hook.keeps _) (fun s e => xl_of s (Bool.and_eq_true_iff.mp e).1) XL.keeps (by rfl) (by rfl) (by rfl) (fun s e => recFacts_of (Bool.and_eq_true_iff.mp e).2) (by rfl) (by first | assumption | decide +kernel) (by decide +kernel) ⟨rfl, rfl, rfl, rfl, rfl, by decide +kernel⟩ (by w_witness2) walk
end Mine
end
namespace Mine
section
open PySem PySem.W PyProof.Rows
/-! Texts as lists of signs -/
def tx (l : List Nat) : Str := ⟨l.toArray⟩
theorem tx_cps (l : List Nat) : (tx l).cps.toList = l := by simp [tx]
theorem tx_len (l : List Nat) : (tx l).length = l.length := by simp [tx, Str.length]
theorem tx_app (a b : List Nat) : tx a ++ tx b = tx (a ++ b) := by
  show Str.mk (a.toArray ++ b.toArray) = _
  simp [tx]
theorem tx_of (x : Str) : tx x.cps.toList = x := by simp [tx]
theorem tx_inj {a b : List Nat} (h : tx a = tx b) : a = b := by
  have := congrArg (fun x : Str => x.cps.toList) h
  simpa [tx] using this
theorem tx_beq (a b : List Nat) : (tx a == tx b) = decide (a = b) := by
  by_cases h : a = b
  · simp [h]
  · simp only [h, decide_false]
    exact beq_eq_false_iff_ne.mpr fun e => h (tx_inj e)
theorem tx_bne (a b : List Nat) : (tx a != tx b) = decide (a ≠ b) := by
  rw [bne, tx_beq]; by_cases h : a = b <;> simp [h]
theorem str_app (x y : Str) : (x ++ y).cps.toList = x.cps.toList ++ y.cps.toList := by
  show (x.cps ++ y.cps).toList = _
  simp
theorem slice_to {x : Str} {j : Nat} (h : j ≤ x.length) : Txt.slice x none (some (j : Int)) = tx (x.cps.toList.take j) := by
  have := slice_closes_toL (x := x) (j := (j : Int)) (by omega) (by omega)
  rw [eq_of_beq this]; simp [tx]
theorem slice_ab {x : Str} {i j : Nat} (h1 : i ≤ j) (h : j ≤ x.length) : Txt.slice x (some (i : Int)) (some (j : Int)) = tx ((x.cps.toList.drop i).take (j - i)) := by
  have := slice_closesL (x := x) (i := (i : Int)) (j := (j : Int)) (by omega) (by omega) (by omega)
  rw [eq_of_beq this]
  have e : ((j : Int) - i).toNat = j - i := by omega
  simp [tx, e]
theorem item_at {x : Str} {i : Int} (h0 : 0 ≤ i) (h : i < x.length) : ∃ c, x.cps.toList[i.toNat]? = some c ∧ Txt.item x i = tx [c] := by
  have hl : i.toNat < x.cps.toList.length := by simp only [Array.length_toList]; unfold Str.length at h; omega
  refine ⟨x.cps.toList[i.toNat], List.getElem?_eq_getElem hl, ?_⟩
  unfold Txt.item Txt.charAt seqIndex?
  have h2 : ¬ i < 0 := by omega
  have h3 : i < (x.length : Int) := h
  simp only [h2, if_false, h0, h3, decide_true, Bool.and_self, if_true, Option.bind_some, tx]
  have h4 : i.toNat < x.cps.size := by simpa using hl
  rw [Array.getElem?_eq_getElem h4]
  simp

/-! what parse257 tells -/
def scan : List Nat → List Nat → List Nat
  | [], d => d
  | [c], d => if c = 34 then d else d ++ [c]
  | c :: c2 :: r, d => if c = 34 then (if c2 = 34 then scan r (d ++ [34]) else d) else scan (c2 :: r) (d ++ [c])
def p257 (x : List Nat) : List Nat := if (x.drop 3).take 2 = [32, 34] then scan (x.drop 5) [] else []

theorem scan_end {x : List Nat} {i : Nat} {d : List Nat} (h : x.length ≤ i) : scan (x.drop i) d = d := by
  rw [List.drop_eq_nil_of_le h]; rfl
theorem drop_at {x : List Nat} {i : Nat} {c : Nat} (h : x[i]? = some c) : x.drop i = c :: x.drop (i + 1) := by
  obtain ⟨hl, e⟩ := List.getElem?_eq_some_iff.mp h
  rw [List.drop_eq_getElem_cons hl, e]
theorem scan_last {x : List Nat} {i : Nat} {d : List Nat} (h : x[i]? = some 34) (h2 : x.length ≤ i + 1) : scan (x.drop i) d = d := by
  rw [drop_at h, List.drop_eq_nil_of_le h2]; simp [scan]
theorem scan_stop {x : List Nat} {i c : Nat} {d : List Nat} (h : x[i]? = some 34) (h2 : x[i + 1]? = some c) (h3 : c ≠ 34) : scan (x.drop i) d = d := by
  rw [drop_at h, drop_at h2]; simp [scan, h3]
theorem scan_two {x : List Nat} {i : Nat} {d : List Nat} (h : x[i]? = some 34) (h2 : x[i + 1]? = some 34) : scan (x.drop i) d = scan (x.drop (i + 2)) (d ++ [34]) := by
  rw [drop_at h, drop_at h2]; simp [scan]
theorem scan_one {x : List Nat} {i c : Nat} {d : List Nat} (h : x[i]? = some c) (h3 : c ≠ 34) : scan (x.drop i) d = scan (x.drop (i + 1)) (d ++ [c]) := by
  rw [drop_at h]
  cases e : x.drop (i + 1) with
  | nil => simp [scan, h3]
  | cons a r => simp [scan, h3]
def Hold (p : Prop) : Prop := p
theorem Hold.out {p : Prop} (h : Hold p) : p := h
end
section
open PySem PySem.W PyProof.Rows PySem.Builtin PySem.Builtin.Str
/-! rows of marks -/
def rep (n : Nat) : List Nat := List.replicate n 34
theorem rep_len (n : Nat) : (rep n).length = n := by simp [rep]
theorem scan_even (s : List Nat) : ∀ (k : Nat) (d : List Nat), scan (rep (2 * k) ++ s) d = scan s (d ++ rep k)
  | 0, d => by simp [rep]
  | k + 1, d => by
    have e : rep (2 * (k + 1)) ++ s = 34 :: 34 :: (rep (2 * k) ++ s) := by
      show List.replicate (2 * k + 1 + 1) 34 ++ s = _
      simp [rep, List.replicate_succ]
    have e2 : d ++ rep (k + 1) = d ++ [34] ++ rep k := by simp [rep, List.replicate_succ]
    rw [e, e2, ← scan_even s k (d ++ [34])]
    simp [scan]
def NoMark : List Nat → Prop
  | [] => True
  | c :: _ => c ≠ 34
theorem scan_mark {s d : List Nat} (h : NoMark s) : scan (34 :: s) d = d := by
  cases s with
  | nil => simp [scan]
  | cons c r => simp [scan, show c ≠ 34 from h]
theorem scan_odd {s : List Nat} (h : NoMark s) (k : Nat) (d : List Nat) : scan (rep (2 * k + 1) ++ s) d = d ++ rep k := by
  have e : rep (2 * k + 1) ++ s = rep (2 * k) ++ 34 :: s := by
    show List.replicate (2 * k + 1) 34 ++ s = _
    rw [List.replicate_succ']
    simp [rep]
  rw [e, scan_even, scan_mark h]
/-- nothing, a mark, or a mark and words -/
def Tail (s : List Nat) : Prop := s = [] ∨ ∃ r, s = 34 :: r ∧ NoMark r
theorem scan_tail {s : List Nat} (h : Tail s) (d : List Nat) : scan s d = d := by
  rcases h with rfl | ⟨r, rfl, h⟩
  · rfl
  · exact scan_mark h
theorem scan_sign {c : Nat} (h : c ≠ 34) (s d : List Nat) : scan (c :: s) d = scan s (d ++ [c]) := by
  cases s with
  | nil => simp [scan, h]
  | cons a r => simp [scan, h]
theorem p257_of (s : List Nat) : p257 ([50, 53, 55, 32, 34] ++ s) = scan s [] := rfl
theorem told_one {l : Nat} (hl : l ≠ 34) {t : List Nat} (ht : Tail t) (n : Nat) : p257 ([50, 53, 55, 32, 34] ++ (rep n ++ (l :: t))) = rep (n / 2) ++ (if n % 2 = 0 then [l] else []) := by
  rw [p257_of]
  by_cases h : n % 2 = 0
  · have e : n = 2 * (n / 2) := by omega
    rw [if_pos h]
    conv => lhs; rw [e]
    rw [scan_even, scan_sign hl, scan_tail ht]; simp
  · have e : n = 2 * (n / 2) + 1 := by omega
    rw [if_neg h]
    conv => lhs; rw [e]
    rw [scan_odd (s := l :: t) hl]; simp
theorem mul_mark (n : Nat) : Txt.mul (Str.ofString "\"") (n : Int) = tx (rep n) := by
  have e : Str.ofString "\"" = tx [34] := by decide
  rw [e]
  unfold Txt.mul
  have fold : ∀ (k : Nat) (a : Array Nat), (List.replicate k (tx [34]).cps).foldl (· ++ ·) a = a ++ (rep k).toArray := by
    intro k
    induction k with
    | zero => intro a; simp [rep]
    | succ k ih => intro a; rw [List.replicate_succ, List.foldl_cons, ih]; apply Array.toList_inj.mp; simp [tx, rep, List.replicate_succ]
  by_cases h : n = 0
  · subst h; rfl
  · have h1 : ¬ ((n : Int) < 1) := by omega
    rw [if_neg h1]
    by_cases h2 : n = 1
    · subst h2; rfl
    · have h3 : ((n : Int) == 1 || (tx [34]).length == 0) = false := by
        have : ¬ ((n : Int) = 1) := by omega
        simp [this, tx_len]
      rw [h3]
      simp only [Bool.false_eq_true, if_false, Int.toNat_natCast, fold]
      simp [tx]
theorem asked_one (n l : Nat) (t : List Nat) : Str.ofString "257 \"" ++ Txt.mul (Str.ofString "\"") (n : Int) ++ tx [l] ++ tx t = tx ([50, 53, 55, 32, 34] ++ (rep n ++ (l :: t))) := by
  rw [mul_mark, show Str.ofString "257 \"" = tx [50, 53, 55, 32, 34] from by decide, tx_app, tx_app, tx_app]
  simp
def told (n l : Nat) : List Nat := rep (n / 2) ++ (if n % 2 = 0 then [l] else [])
end
section
open PySem PySem.W PyProof.Rows PySem.Calls
section
variable {prog : Program} {w : World} {A : Around} {E : Value → Shared → Prop} {s : Shared} {h₀ : Heap} {L : Addr} {news : List (Addr × Obj)} {Q : Value → Shared → Prop}
theorem item_I {value slice : Expr} {l : Addr} {vs : List Value} {nn : Nat} {ns : List Int} {k : Int} {u : Tok} (N : News h₀ L s.heap news) (hm : (l, listOf vs.toArray nn) ∈ news) (hi : IntsAre vs ns) (hl : ns.length ≤ 1000)
    (h0 : 0 ≤ k) (hk : k < ns.length) (h : ∀ t, Q (.int (ns.getD k.toNat 0) t) s)
    (hs : subscripted slice false (.ref l) (.int k u) = operate [.ref l, .int k u] (getItem (.ref l) (.int k u)) := by with_unfolding_all rfl) (hg : ∀ r, letTemporaryGo value (.ref l) r = pure () := by intro _; with_unfolding_all rfl) :
    wpAny (model prog w) A (subscriptTail value slice (.ref l) (.int k u)) Q E s := by
  have hkn : k.toNat < ns.length := by omega
  obtain ⟨t, ht⟩ := hi.get k.toNat (ns[k.toNat]'hkn) (List.getElem?_eq_getElem hkn)
  refine item_listL (l := vs) ⟨_, (N _ hm).1, rfl, nn, rfl⟩ h0 (by omega) ht ?_ hs hg
  have e : ns.getD k.toNat 0 = ns[k.toNat]'hkn := by simp [List.getD, List.getElem?_eq_getElem hkn]
  rw [← e]
  exact h t
theorem len_I {l : Addr} {vs : List Value} {nn : Nat} {ns : List Int} (N : News h₀ L s.heap news) (hm : (l, listOf vs.toArray nn) ∈ news) (hi : IntsAre vs ns) (hl : ns.length ≤ 1000)
    (h : Q (.int ns.length (s.toks + 1)) { s with toks := s.toks + 1 + 1 }) : wpAny (model prog w) A (call (.builtin "len") [.ref l]) Q E s := by
  have e : vs.toArray.size = ns.length := by simp [hi.length]
  refine len_list (items := vs.toArray) ⟨_, (N _ hm).1, rfl, nn, rfl⟩ (by rw [e]; omega) ?_
  rw [e]
  exact h
end
/-! what bisect_right tells -/
def bis (ns : List Int) (x : Int) : Nat → Nat → Nat → Nat
  | 0, lo, _ => lo
  | f + 1, lo, hi => if lo < hi then (if x < ns.getD ((lo + hi) / 2) 0 then bis ns x f lo ((lo + hi) / 2) else bis ns x f ((lo + hi) / 2 + 1) hi) else lo
theorem bis_more (ns : List Int) (x : Int) : ∀ (f lo hi : Nat), hi - lo ≤ f → ∀ g, hi - lo ≤ g → bis ns x f lo hi = bis ns x g lo hi
  | 0, lo, hi, h, g, h2 => by
    cases g with
    | zero => rfl
    | succ g => rw [bis, bis, if_neg (by omega)]
  | f + 1, lo, hi, h, g, h2 => by
    cases g with
    | zero => rw [bis, bis, if_neg (by omega)]
    | succ g =>
      rw [bis, bis]
      by_cases hlt : lo < hi
      · rw [if_pos hlt, if_pos hlt, bis_more ns x f _ _ (by omega) g (by omega), bis_more ns x f _ _ (by omega) g (by omega)]
      · rw [if_neg hlt, if_neg hlt]
/-- the answer from lo to hi -/
def bisR (ns : List Int) (x : Int) (lo hi : Nat) : Nat := bis ns x (hi - lo) lo hi
theorem bisR_end (ns : List Int) (x : Int) {lo hi : Nat} (h : ¬ lo < hi) : bisR ns x lo hi = lo := by
  unfold bisR
  cases e : hi - lo with
  | zero => rfl
  | succ f => omega
theorem bisR_lt (ns : List Int) (x : Int) {lo hi : Nat} (h : lo < hi) (hx : x < ns.getD ((lo + hi) / 2) 0) : bisR ns x lo hi = bisR ns x lo ((lo + hi) / 2) := by
  unfold bisR
  rw [bis_more ns x (hi - lo) lo hi (by omega) (hi - lo + 1) (by omega), bis, if_pos h, if_pos hx, bis_more ns x _ _ _ (by omega)]
  omega
theorem bisR_ge (ns : List Int) (x : Int) {lo hi : Nat} (h : lo < hi) (hx : ¬ x < ns.getD ((lo + hi) / 2) 0) : bisR ns x lo hi = bisR ns x ((lo + hi) / 2 + 1) hi := by
  unfold bisR
  rw [bis_more ns x (hi - lo) lo hi (by omega) (hi - lo + 1) (by omega), bis, if_pos h, if_neg hx, bis_more ns x _ _ _ (by omega)]
  omega
def insAt (ns : List Int) (k : Nat) (x : Int) : List Int := ns.take k ++ x :: ns.drop k
theorem ints_ins {vs : List Value} {ns : List Int} (h : IntsAre vs ns) (k : Nat) (x : Int) (t : Tok) (hk : k ≤ ns.length) : IntsAre (kl_ins vs (k : Int) (.int x t)) (insAt ns k x) := by
  have e : kl_ins vs (k : Int) (.int x t) = vs.take k ++ .int x t :: vs.drop k := by
    unfold kl_ins
    have hl := h.length
    have h1 : ¬ ((k : Int) < 0) := by omega
    simp only [h1, if_false, Int.toNat_natCast]
    rw [Nat.min_eq_left (by omega)]
    try simp
  rw [e]
  exact (h.take k).append (.cons x t (h.drop k))
theorem bis_le (ns : List Int) (x : Int) : ∀ (f lo hi : Nat), lo ≤ hi → bis ns x f lo hi ≤ hi
  | 0, lo, hi, h => h
  | f + 1, lo, hi, h => by
    rw [bis]
    split
    · split
      · exact Nat.le_trans (bis_le ns x f _ _ (by omega)) (by omega)
      · exact bis_le ns x f _ _ (by omega)
    · exact h
theorem bisR_le (ns : List Int) (x : Int) {lo hi : Nat} (h : lo ≤ hi) : bisR ns x lo hi ≤ hi := bis_le ns x _ _ _ h
end
section
open PySem PySem.W PyProof.Rows PySem.Calls
def lastZ (ns : List Int) : Int := ns.getD (ns.length - 1) 0
def halves : Nat → Nat → Nat
  | 0, n => n
  | r + 1, n => (halves r n + 1) / 2
/-- a row of the ring: from its first number on -/
def rowGo (step readings : Nat) : Nat → List Int → List Int
  | 0, row => row
  | f + 1, row => if lastZ row ≤ 6 * ((step : Int) - 1) then rowGo step readings f (row ++ [lastZ row + (halves readings (lastZ row).toNat : Nat)]) else row
def rowF (step readings left : Nat) : List Int := rowGo step readings 49 [(left * step + 1 : Nat)]
def dints (ns : List Int) : Dat := Dat.list (ns.map Dat.int)
end
section
open PySem PySem.W PyProof.Rows
/-! bisect_right and insort_right over sorted lists -/
def Sd (ns : List Int) : Prop := ns.Pairwise (· ≤ ·)
def le_n (ns : List Int) (x : Int) : Nat := (ns.filter fun n => decide (n ≤ x)).length
theorem le_n_le (ns : List Int) (x : Int) : le_n ns x ≤ ns.length := List.length_filter_le _ _
theorem sd_at : ∀ {ns : List Int}, Sd ns → ∀ (x : Int) (i : Nat), i < ns.length → (ns.getD i 0 ≤ x ↔ i < le_n ns x)
  | [], _, _, i, h => absurd h (Nat.not_lt_zero _)
  | a :: r, hs, x, i, h => by
    have hr : Sd r := (List.pairwise_cons.mp hs).2
    have ha := (List.pairwise_cons.mp hs).1
    by_cases hx : a ≤ x
    · have e : le_n (a :: r) x = le_n r x + 1 := by unfold le_n; simp [hx]
      cases i with
      | zero => rw [e]; simpa using hx
      | succ i =>
        rw [e]
        have := sd_at hr x i (by simpa using h)
        simp only [List.getD_cons_succ]
        omega
    · have hz : ∀ b ∈ r, ¬ b ≤ x := fun b hb hbx => hx (Int.le_trans (ha b hb) hbx)
      have e : le_n (a :: r) x = 0 := by
        unfold le_n
        rw [List.length_eq_zero_iff, List.filter_eq_nil_iff]
        intro b hb
        rcases List.mem_cons.mp hb with rfl | hb
        · simpa using hx
        · simpa using hz b hb
      rw [e]
      cases i with
      | zero => simpa using hx
      | succ i =>
        have hi : i < r.length := by simpa using h
        have : r.getD i 0 = r[i] := by simp [List.getD, List.getElem?_eq_getElem hi]
        simp only [List.getD_cons_succ, Nat.not_lt_zero, iff_false]
        rw [this]
        exact hz _ (List.getElem_mem hi)
theorem bis_le_n {ns : List Int} (hs : Sd ns) (x : Int) : ∀ (f lo hi : Nat), hi - lo ≤ f → lo ≤ le_n ns x → le_n ns x ≤ hi → hi ≤ ns.length → bis ns x f lo hi = le_n ns x
  | 0, lo, hi, h, h1, h2, h3 => by rw [bis]; omega
  | f + 1, lo, hi, h, h1, h2, h3 => by
    rw [bis]
    by_cases hlt : lo < hi
    · rw [if_pos hlt]
      have hm := sd_at hs x ((lo + hi) / 2) (by omega)
      by_cases hx : x < ns.getD ((lo + hi) / 2) 0
      · rw [if_pos hx]
        exact bis_le_n hs x f _ _ (by omega) h1 (by have : ¬ (lo + hi) / 2 < le_n ns x := fun q => by have := hm.mpr q; omega
                                                    omega) (by omega)
      · rw [if_neg hx]
        have := hm.mp (by omega)
        exact bis_le_n hs x f _ _ (by omega) (by omega) h2 h3
    · rw [if_neg hlt]; omega
theorem bisR_sd {ns : List Int} (hs : Sd ns) (x : Int) : bisR ns x 0 ns.length = le_n ns x :=
  bis_le_n hs x _ _ _ (by omega) (Nat.zero_le _) (le_n_le _ _) (Nat.le_refl _)
theorem ins_perm (ns : List Int) (k : Nat) (x : Int) : (insAt ns k x).Perm (x :: ns) := by
  unfold insAt
  refine List.perm_middle.trans (List.Perm.cons x ?_)
  rw [List.take_append_drop]
theorem take_le_n : ∀ {ns : List Int}, Sd ns → ∀ (x : Int), (∀ b ∈ ns.take (le_n ns x), b ≤ x) ∧ ∀ b ∈ ns.drop (le_n ns x), x < b := by
  intro ns hs x
  constructor
  · intro b hb
    obtain ⟨i, hi, rfl⟩ := List.mem_iff_getElem.mp hb
    rw [List.length_take] at hi
    have h2 : i < ns.length := by omega
    have := (sd_at hs x i h2).mpr (by omega)
    rw [List.getElem_take]
    simpa [List.getD, List.getElem?_eq_getElem h2] using this
  · intro b hb
    obtain ⟨i, hi, rfl⟩ := List.mem_iff_getElem.mp hb
    rw [List.length_drop] at hi
    have h2 : le_n ns x + i < ns.length := by omega
    have := mt (sd_at hs x (le_n ns x + i) h2).mp (by omega)
    rw [List.getElem_drop]
    simp only [List.getD, List.getElem?_eq_getElem h2, Option.getD_some] at this
    omega
theorem ins_sd {ns : List Int} (hs : Sd ns) (x : Int) : Sd (insAt ns (bisR ns x 0 ns.length) x) := by
  rw [bisR_sd hs]
  obtain ⟨h1, h2⟩ := take_le_n hs x
  have h3 : Sd (ns.take (le_n ns x) ++ ns.drop (le_n ns x)) := by rw [List.take_append_drop]; exact hs
  obtain ⟨q1, q2, q3⟩ := List.pairwise_append.mp h3
  unfold insAt
  refine List.pairwise_append.mpr ⟨q1, List.pairwise_cons.mpr ⟨fun b hb => Int.le_of_lt (h2 b hb), q2⟩, ?_⟩
  intro a ha b hb
  rcases List.mem_cons.mp hb with rfl | hb
  · exact h1 a ha
  · exact q3 a ha b hb
/-- all numbers laid in by insort_right -/
def insL (ns : List Int) (xs : List Int) : List Int := xs.foldl (fun a x => insAt a (bisR a x 0 a.length) x) ns
theorem insL_sd : ∀ (xs : List Int) {ns : List Int}, Sd ns → Sd (insL ns xs)
  | [], _, h => h
  | x :: r, _, h => insL_sd r (ins_sd h x)
theorem insL_perm : ∀ (xs ns : List Int), (insL ns xs).Perm (xs ++ ns)
  | [], ns => List.Perm.refl _
  | x :: r, ns => by
    refine (insL_perm r _).trans ?_
    refine (List.Perm.append_left r (ins_perm ns _ x)).trans ?_
    exact List.perm_middle
theorem le_n_perm {a b : List Int} (h : a.Perm b) (x : Int) : le_n a x = le_n b x := (h.filter _).length_eq
theorem sd_perm_eq {a b : List Int} (ha : Sd a) (hb : Sd b) (h : a.Perm b) : a = b :=
  h.eq_of_pairwise (fun a b _ _ h1 h2 => Int.le_antisymm h1 h2) ha hb
end
section
open PySem PySem.W PyProof.Rows
/-! the levels and what they weigh -/
abbrev Ch := Nat × Int
def sg (c : Ch) : Int := if c.1 % 2 = 0 then 1 else -1
def lev (cs : List Ch) (x : Int) : Int := (cs.map fun c => if c.2 ≤ x then sg c else 0).sum
def wt (cs : List Ch) (g : Int → Int) : Int := (cs.map fun c => sg c * g c.2).sum
def mv (f g : Int → Int) : List Int → Int
  | a :: b :: r => f a * (g b - g a) + mv f g (b :: r)
  | _ => 0
theorem mv_zero (g : Int → Int) : ∀ P : List Int, mv (fun _ => 0) g P = 0
  | [] => rfl
  | [_] => rfl
  | a :: b :: r => by rw [mv, mv_zero g (b :: r)]; simp
theorem mv_add (f1 f2 g : Int → Int) : ∀ P : List Int, mv (fun x => f1 x + f2 x) g P = mv f1 g P + mv f2 g P
  | [] => rfl
  | [_] => rfl
  | a :: b :: r => by rw [mv, mv, mv, mv_add f1 f2 g (b :: r)]; grind
theorem mv_smul (k : Int) (f g : Int → Int) : ∀ P : List Int, mv (fun x => k * f x) g P = k * mv f g P
  | [] => by simp [mv]
  | [_] => by simp [mv]
  | a :: b :: r => by rw [mv, mv, mv_smul k f g (b :: r)]; grind
def lastD (P : List Int) : Int := P.getLastD 0
theorem mv_all (t : Int) (g : Int → Int) : ∀ (a : Int) (r : List Int), (∀ b ∈ a :: r, t ≤ b) → mv (fun x => if t ≤ x then 1 else 0) g (a :: r) = g (lastD (a :: r)) - g a
  | a, [], _ => by simp [mv, lastD]
  | a, b :: r, h => by
    rw [mv, mv_all t g b r fun x hx => h x (List.mem_cons_of_mem _ hx), if_pos (h a List.mem_cons_self)]
    have : lastD (a :: b :: r) = lastD (b :: r) := by simp [lastD]
    rw [this]
    omega
theorem mv_one (t : Int) (g : Int → Int) : ∀ (P : List Int), Sd P → t ∈ P → mv (fun x => if t ≤ x then 1 else 0) g P = g (lastD P) - g t
  | [], _, h => nomatch h
  | a :: r, hs, h => by
    obtain ⟨h1, h2⟩ := List.pairwise_cons.mp hs
    by_cases hta : t ≤ a
    · have e : t = a := by
        rcases List.mem_cons.mp h with e | h
        · exact e
        · exact Int.le_antisymm hta (h1 t h)
      subst e
      exact mv_all t g t r fun b hb => by
        rcases List.mem_cons.mp hb with rfl | hb
        · exact Int.le_refl _
        · exact h1 b hb
    · have hm : t ∈ r := by
        rcases List.mem_cons.mp h with e | h
        · exact absurd (Int.le_of_eq e) hta
        · exact h
      cases r with
      | nil => nomatch hm
      | cons b r =>
        rw [mv, mv_one t g (b :: r) h2 hm, if_neg hta]
        have : lastD (a :: b :: r) = lastD (b :: r) := by simp [lastD]
        rw [this]
        omega
theorem mv_lev (g : Int → Int) {P : List Int} (hs : Sd P) : ∀ (cs : List Ch), (∀ c ∈ cs, c.2 ∈ P) → mv (lev cs) g P = g (lastD P) * (cs.map sg).sum - wt cs g
  | [], _ => by
    have : lev [] = fun _ => 0 := rfl
    rw [this, mv_zero]; simp [wt]
  | c :: r, h => by
    have e : lev (c :: r) = fun x => sg c * (if c.2 ≤ x then 1 else 0) + lev r x := by
      funext x
      unfold lev
      rw [List.map_cons, List.sum_cons]
      congr 1
      split <;> simp
    rw [e, mv_add (fun x => sg c * (if c.2 ≤ x then 1 else 0)) (lev r), mv_smul (sg c) (fun x => if c.2 ≤ x then 1 else 0), mv_one c.2 g P hs (h c List.mem_cons_self), mv_lev g hs r fun d hd => h d (List.mem_cons_of_mem _ hd)]
    unfold wt
    rw [List.map_cons, List.sum_cons, List.map_cons, List.sum_cons]
    grind
/-! the sixteen choices -/
def chs (m0 m1 m2 m3 : Nat) (a b c d : Int) : List Ch :=
  [(0, 0), (m0, a), (m1, b), (m0 + m1, a + b), (m2, c), (m0 + m2, a + c), (m1 + m2, b + c), (m0 + m1 + m2, a + b + c),
   (m3, d), (m0 + m3, a + d), (m1 + m3, b + d), (m0 + m1 + m3, a + b + d), (m2 + m3, c + d), (m0 + m2 + m3, a + c + d), (m1 + m2 + m3, b + c + d), (m0 + m1 + m2 + m3, a + b + c + d)]
/-- the sign of a number's marks -/
def sn (m : Nat) : Int := if m % 2 = 0 then 1 else -1
theorem sn_add (m n : Nat) : sn (m + n) = sn m * sn n := by
  unfold sn
  rcases Nat.mod_two_eq_zero_or_one m with h | h <;> rcases Nat.mod_two_eq_zero_or_one n with k | k <;> simp [Nat.add_mod, h, k]
theorem wt_chs (m0 m1 m2 m3 : Nat) (a b c d : Int) (g : Int → Int) : wt (chs m0 m1 m2 m3 a b c d) g =
    g 0 + sn m0 * g a + sn m1 * g b + sn m0 * sn m1 * g (a + b) + sn m2 * g c + sn m0 * sn m2 * g (a + c) + sn m1 * sn m2 * g (b + c) + sn m0 * sn m1 * sn m2 * g (a + b + c)
    + sn m3 * g d + sn m0 * sn m3 * g (a + d) + sn m1 * sn m3 * g (b + d) + sn m0 * sn m1 * sn m3 * g (a + b + d) + sn m2 * sn m3 * g (c + d) + sn m0 * sn m2 * sn m3 * g (a + c + d) + sn m1 * sn m2 * sn m3 * g (b + c + d) + sn m0 * sn m1 * sn m2 * sn m3 * g (a + b + c + d) := by
  have e : ∀ (m : Nat) (t : Int), sg (m, t) = sn m := fun _ _ => rfl
  have z : sn 0 = 1 := rfl
  unfold wt chs
  simp only [List.map_cons, List.map_nil, List.sum_cons, List.sum_nil, e, sn_add, z]
  grind
theorem sn_cases (m : Nat) : (m % 2 = 0 ∧ sn m = 1) ∨ (m % 2 = 1 ∧ sn m = -1) := by
  unfold sn
  rcases Nat.mod_two_eq_zero_or_one m with h | h <;> simp [h]
end
section
open PySem PySem.W PyProof.Rows
/-- the numbers with an odd number of marks -/
def odds4 (m0 m1 m2 m3 : Nat) (a b c d : Int) : List Int := (if m0 % 2 = 1 then [a] else []) ++ ((if m1 % 2 = 1 then [b] else []) ++ ((if m2 % 2 = 1 then [c] else []) ++ (if m3 % 2 = 1 then [d] else [])))
def dueZ (l : List Int) : Int := (List.range l.length).foldl (fun (s : Int) (k : Nat) => s * (-((k : Int) + 1) * l.getD k 0)) (-(2 ^ (4 - l.length)))
theorem sum_sg (m0 m1 m2 m3 : Nat) (a b c d : Int) : ((chs m0 m1 m2 m3 a b c d).map sg).sum = (1 + sn m0) * (1 + sn m1) * (1 + sn m2) * (1 + sn m3) := by
  have e := wt_chs m0 m1 m2 m3 a b c d (fun _ => 1)
  unfold wt at e
  simp only [Int.mul_one] at e
  rw [e]
  grind
structure Weighs (m0 m1 m2 m3 : Nat) (a b c d : Int) : Prop where
  zero : odds4 m0 m1 m2 m3 a b c d ≠ [] → ((chs m0 m1 m2 m3 a b c d).map sg).sum = 0
  less : ∀ p, 1 ≤ p → p < (odds4 m0 m1 m2 m3 a b c d).length → wt (chs m0 m1 m2 m3 a b c d) (fun x => x ^ p) = 0
  due : odds4 m0 m1 m2 m3 a b c d ≠ [] → -wt (chs m0 m1 m2 m3 a b c d) (fun x => x ^ (odds4 m0 m1 m2 m3 a b c d).length) = dueZ (odds4 m0 m1 m2 m3 a b c d)
theorem weighs (m0 m1 m2 m3 : Nat) (a b c d : Int) : Weighs m0 m1 m2 m3 a b c d := by
  rcases sn_cases m0 with ⟨h0, s0⟩ | ⟨h0, s0⟩ <;> rcases sn_cases m1 with ⟨h1, s1⟩ | ⟨h1, s1⟩ <;> rcases sn_cases m2 with ⟨h2, s2⟩ | ⟨h2, s2⟩ <;> rcases sn_cases m3 with ⟨h3, s3⟩ | ⟨h3, s3⟩
  all_goals
    refine ⟨?_, ?_, ?_⟩
    · intro hne
      rw [sum_sg, s0, s1, s2, s3]
      first
        | rfl
        | (exfalso; apply hne; simp [odds4, h0, h1, h2, h3]; done)
    · intro p hp1 hp2
      rw [wt_chs, s0, s1, s2, s3]
      simp only [odds4, h0, h1, h2, h3, if_true, if_false, List.nil_append, List.append_nil, List.cons_append, List.length_cons, List.length_nil, Nat.zero_ne_one, Nat.zero_add, reduceIte] at hp2
      have hp : p = 1 ∨ p = 2 ∨ p = 3 := by omega
      rcases hp with rfl | rfl | rfl
      all_goals first
        | (exfalso; omega)
        | grind
    · intro hne
      rw [wt_chs, s0, s1, s2, s3]
      simp only [odds4, h0, h1, h2, h3, if_true, if_false, List.nil_append, List.append_nil, List.cons_append, List.length_cons, List.length_nil, Nat.zero_ne_one, Nat.zero_add, reduceIte]
      first
        | (exfalso; apply hne; simp [odds4, h0, h1, h2, h3]; done)
        | (simp [dueZ, List.range_succ]; grind)
        | grind
end
section
open PySem PySem.W PyProof.Rows
/-! the levels seen from the other end -/
theorem lev_chs (m0 m1 m2 m3 : Nat) (a b c d : Int) (x : Int) : lev (chs m0 m1 m2 m3 a b c d) x = wt (chs m0 m1 m2 m3 a b c d) (fun t => if t ≤ x then 1 else 0) := by
  unfold lev wt
  congr 1
  apply List.map_congr_left
  intro e _
  by_cases h : e.2 ≤ x <;> simp [h]
theorem sn_sq (m : Nat) : sn m * sn m = 1 := by
  rcases sn_cases m with ⟨_, h⟩ | ⟨_, h⟩ <;> rw [h] <;> rfl
/-- complement: the weight of g is, but for the sign of all marks together, the weight of g from the other end -/
theorem wt_flip (m0 m1 m2 m3 : Nat) (a b c d : Int) (g : Int → Int) :
    wt (chs m0 m1 m2 m3 a b c d) g = sn m0 * sn m1 * sn m2 * sn m3 * wt (chs m0 m1 m2 m3 a b c d) (fun t => g (a + b + c + d - t)) := by
  rw [wt_chs, wt_chs]
  simp only [show a + b + c + d - 0 = a + b + c + d by omega, show a + b + c + d - a = b + c + d by omega, show a + b + c + d - b = a + c + d by omega, show a + b + c + d - (a + b) = c + d by omega, show a + b + c + d - c = a + b + d by omega, show a + b + c + d - (a + c) = b + d by omega, show a + b + c + d - (b + c) = a + d by omega, show a + b + c + d - (a + b + c) = d by omega,
    show a + b + c + d - d = a + b + c by omega, show a + b + c + d - (a + d) = b + c by omega, show a + b + c + d - (b + d) = a + c by omega, show a + b + c + d - (a + b + d) = c by omega, show a + b + c + d - (c + d) = a + b by omega, show a + b + c + d - (a + c + d) = b by omega, show a + b + c + d - (b + c + d) = a by omega, show a + b + c + d - (a + b + c + d) = 0 by omega]
  rcases sn_cases m0 with ⟨_, s0⟩ | ⟨_, s0⟩ <;> rcases sn_cases m1 with ⟨_, s1⟩ | ⟨_, s1⟩ <;> rcases sn_cases m2 with ⟨_, s2⟩ | ⟨_, s2⟩ <;> rcases sn_cases m3 with ⟨_, s3⟩ | ⟨_, s3⟩ <;> rw [s0, s1, s2, s3] <;> grind
theorem wt_sub (cs : List Ch) (f g : Int → Int) : wt cs (fun t => f t - g t) = wt cs f - wt cs g := by
  unfold wt
  induction cs with
  | nil => rfl
  | cons c r ih => simp only [List.map_cons, List.sum_cons, ih]; grind
theorem wt_const (cs : List Ch) : wt cs (fun _ => 1) = (cs.map sg).sum := by
  unfold wt; simp
/-- from the other end -/
theorem lev_flip (m0 m1 m2 m3 : Nat) (a b c d : Int) (h : ((chs m0 m1 m2 m3 a b c d).map sg).sum = 0) (x : Int) :
    lev (chs m0 m1 m2 m3 a b c d) x = -(sn m0 * sn m1 * sn m2 * sn m3) * lev (chs m0 m1 m2 m3 a b c d) (a + b + c + d - x - 1) := by
  rw [lev_chs, wt_flip, lev_chs]
  have e : (fun t : Int => if a + b + c + d - t ≤ x then (1 : Int) else 0) = fun t => 1 - (if t ≤ a + b + c + d - x - 1 then 1 else 0) := by
    funext t
    by_cases ht : t ≤ a + b + c + d - x - 1
    · rw [if_neg (by omega), if_pos ht]; rfl
    · rw [if_pos (by omega), if_neg ht]; rfl
  rw [e, wt_sub (chs m0 m1 m2 m3 a b c d) (fun _ => 1) (fun t => if t ≤ a + b + c + d - x - 1 then 1 else 0), wt_const, h]
  grind
end
section
open PySem PySem.W PyProof.Rows
/-! the stretches -/
def sideStep (s : List Bool) (v : Int) : List Bool := if v ≠ 0 ∧ (s = [] ∨ s.getLast? ≠ some (decide (v > 0))) then s ++ [decide (v > 0)] else s
def sidesOf (vs : List Int) : List Bool := vs.foldl sideStep []
def SideInv (s : List Bool) (h l : Bool) : Prop := s.head? = some h ∧ s.getLast? = some l ∧ (s.length % 2 = 1 ↔ h = l)
theorem side_zero {s : List Bool} {v : Int} (h : v = 0) : sideStep s v = s := by unfold sideStep; rw [if_neg (fun q => q.1 h)]
theorem side_first {v : Int} (h : v ≠ 0) : SideInv (sideStep [] v) (decide (v > 0)) (decide (v > 0)) := by
  unfold sideStep
  rw [if_pos ⟨h, .inl rfl⟩]
  exact ⟨rfl, rfl, by simp⟩
theorem side_next {s : List Bool} {h l : Bool} {v : Int} (hv : v ≠ 0) (i : SideInv s h l) : SideInv (sideStep s v) h (decide (v > 0)) := by
  obtain ⟨h1, h2, h3⟩ := i
  unfold sideStep
  by_cases e : s.getLast? = some (decide (v > 0))
  · have hs : s ≠ [] := by rintro rfl; cases h1
    rw [if_neg (by rintro ⟨_, q | q⟩; exact hs q; exact q e)]
    rw [h2] at e
    cases e
    exact ⟨h1, h2, h3⟩
  · rw [if_pos ⟨hv, .inr e⟩]
    rw [h2] at e
    have hne : l ≠ decide (v > 0) := fun q => e (by rw [q])
    refine ⟨?_, by simp, ?_⟩
    · cases s with
      | nil => cases h1
      | cons a r => simpa using h1
    · rw [List.length_append, List.length_singleton]
      generalize decide (v > 0) = b at *
      by_cases hl : h = l
      · have := h3.mpr hl
        subst hl
        constructor
        · intro q; omega
        · intro q; exact absurd q hne
      · have : ¬ s.length % 2 = 1 := fun q => hl (h3.mp q)
        constructor
        · intro _
          cases h <;> cases l <;> cases b <;> simp_all
        · intro _; omega
end
section
open PySem PySem.W PyProof.Rows PySem.Calls
theorem plainAttrs_pat : PlainAttrs "re.Pattern" :=
  ⟨⟨"object.__getattribute__", by rw [typeLookup_type, builtinLookup_eq_fast]; kernel_rfl, by decide +kernel⟩, by rw [typeLookup_type, builtinLookup_eq_fast]; kernel_rfl⟩
theorem slot_search : Slot "re.Pattern" "search" "re.Pattern.search" :=
  .of (owner := "re.Pattern") (n := "search") (by rw [typeLookup_type, builtinLookup_eq_fast]; kernel_rfl) (by decide +kernel) (by decide +kernel) (by decide +kernel)
    (by first | exact .inl (by decide +kernel) | exact .inr (by decide +kernel)) (by rw [isSubtype_type]; kernel_rfl)
theorem type_search : typeOf (.builtin "re.Pattern.search") = pure (.type "method_descriptor") := by show builtinType _ = _; rw [builtinType_eq_fast]; kernel_rfl
theorem entry_search : entryFor table "re.Pattern.search" = some Builtin.«re.Pattern.search» := entryFor_of_tree (by kernel_rfl)
theorem owner_pat : Manifest.owners.lookup (String.ofList ['n', 'r', 'e', 't', 't', 'a', 'P', '.', 'e', 'r'].reverse) = some Manifest.sig_re_Pattern := by kernel_rfl
theorem args_search_2 (a b : Value) : argsOk "re.Pattern.search" ⟨[a, b], []⟩ := by
  unfold argsOk; rw [signature?_of (id := "re.Pattern.search") (n := ['h', 'c', 'r', 'a', 'e', 's']) (o := ['n', 'r', 'e', 't', 't', 'a', 'P', '.', 'e', 'r']) (by kernel_rfl) owner_pat]; kernel_rfl
end
section
open PySem PySem.W PyProof.Rows PySem.Calls PySem.Builtin PySem.Builtin.Re
def nameCode : Array Nat := #[14, 10, 4, 1, 1, 22, 0, 31, 16, 127, 0, 13, 7, 22, 0, 31, 16, 127, 0, 1]
def valueCode : Array Nat := #[14, 14, 4, 1, 1, 9, 4294966783, 0, 0, 2147483648, 0, 0, 0, 0, 0, 13, 11, 9, 4294966783, 0, 0, 2147483648, 0, 0, 0, 0, 0, 1]
def Clean (x : Array Nat) : Prop := ∀ c ∈ x.toList, 32 ≤ c ∧ c < 127
def Out (code : Array Nat) (c : Nat) : Prop := ∀ seen, ∃ seen', Sre.inSet code c code.size 5 true seen = .ok (false, seen')
theorem out_name {c : Nat} (h : 32 ≤ c ∧ c < 127) : Out nameCode c := by
  intro seen
  have h1 : ¬ c ≤ 31 := by omega
  have h2 : c ≠ 127 := by omega
  refine ⟨((seen.add 22).add 16).add 0, ?_⟩
  show Sre.inSet nameCode c 20 5 true seen = _
  simp [Sre.inSet, nameCode, Sre.ops, h1, h2]
theorem out_value {c : Nat} (h : 32 ≤ c ∧ c < 127) : Out valueCode c := by
  intro seen
  have hbit : ∀ c : Nat, c < 127 → 32 ≤ c → (valueCode.getD (5 + (1 + c / 32)) 0).testBit (c % 32) = false := by decide +kernel
  refine ⟨(seen.add 9).add 0, ?_⟩
  show Sre.inSet valueCode c 28 5 true seen = _
  rw [Sre.inSet]
  have e9 : Sre.ops[valueCode.getD (5 + 0) 0]? = some .CHARSET := by rfl
  simp only [e9]
  rw [hbit c h.2 h.1]
  simp [Sre.inSet, valueCode, Sre.ops]
theorem named_eq (v : Value) : reNamed "re.Pattern.search" "search" ["string", "pos", "endpos"] 1 [v] [] = pure [some v, none, none] := by rfl
theorem admitted_none {code text : Array Nat} (m : Sre.M) (hc : m.code = code) (ht : m.text = text) (hl : m.lim = text.size) (h : ∀ c ∈ text.toList, Out code c) :
    ∀ (fuel i : Nat) (seen : Sre.Seen), ∃ seen', Sre.M.admitted m fuel i seen = .ok (none, seen')
  | 0, i, seen => ⟨seen, rfl⟩
  | fuel + 1, i, seen => by
    unfold Sre.M.admitted
    by_cases hi : i ≥ m.lim
    · exact ⟨seen, by rw [if_pos hi]⟩
    · rw [if_neg hi]
      have hi' : i < text.size := by rw [← hl]; omega
      have hm : m.text.getD i 0 ∈ text.toList := by
        rw [ht]
        simp [Array.getD, hi']
      obtain ⟨s1, e1⟩ := h _ hm seen
      rw [hc, e1]
      exact admitted_none m hc ht hl h fuel (i + 1) s1
structure Done (m : Sre.M) : Prop where
  a : m.answer = some false
  f : m.frames = []
  o : m.outcome = none
theorem attempt_done {code text : Array Nat} (h2 : code.getD 2 0 = 4) (h0 : Sre.ops[code.getD 0 0]? = some .INFO) (h : ∀ c ∈ text.toList, Out code c) (m : Sre.M) (hc : m.code = code) (ht : m.text = text) (hl : m.lim = text.size)
    (hf : m.frames = []) (ho : m.outcome = none) (i : Nat) (b : Bool) : Done (m.attemptFrom i b) := by
  unfold Sre.M.attemptFrom
  have hfs : Sre.M.hasFirstSet m = true := by
    unfold Sre.M.hasFirstSet
    rw [hc, h0, h2]; rfl
  obtain ⟨s2, e2⟩ := admitted_none m hc ht hl h (m.lim + 1 - i) i m.seen
  rw [hfs, e2]
  exact ⟨rfl, hf, ho⟩
theorem for_done {k : Nat} {code text : Array Nat} (hh : Sre.header code = (1, k)) (h2 : code.getD 2 0 = 4) (h0 : Sre.ops[code.getD 0 0]? = some .INFO) (h : ∀ c ∈ text.toList, Out code c) :
    Done (Sre.forSearch code text 0 0 text.size false) := by
  unfold Sre.forSearch
  rw [hh]
  dsimp only
  split
  · exact ⟨rfl, rfl, rfl⟩
  · exact attempt_done h2 h0 h _ rfl rfl rfl rfl rfl _ _
theorem done_runs {m : Sre.M} (d : Done m) : m.runFor reTurnSteps = { m with outcome := some .failed } := by
  obtain ⟨a, f, o⟩ := d
  unfold reTurnSteps
  rw [Sre.M.runFor, o]
  simp only [Option.isSome_none, Bool.false_eq_true, if_false]
  have hs : m.step = { m with outcome := some .failed } := by
    unfold Sre.M.step
    rw [o, a, f]
    simp
  rw [hs, Sre.M.runFor]
  simp
theorem run_none {M : Model} {A : Around} {E : Value → Shared → Prop} {s : Shared} {m : Sre.M} (d : Done m) {Q : Option Sre.M → Shared → Prop} (h : Q none s) : wpAny M A (reRunToEnd m) Q E s := by
  unfold reRunToEnd
  have hd : reDrive (2 ^ 64) m = pure { m with outcome := some .failed } := by
    rw [show (2 : Nat) ^ 64 = (2 ^ 64 - 1) + 1 from by decide, reDrive, done_runs d]
    simp
  rw [hd]
  refine wpAny_bind (wpAny_pure ?_)
  refine wpAny_bind ?_
  refine wpAny_forIn_list _ (fun _ _ s' => s' = s) _ ?_ ?_ _ _ rfl
  · rintro i rest b s1 rfl
    split
    · exact wpAny_bind (wpAny_rule (wpAny_pure rfl))
    · exact wpAny_pure rfl
  · rintro b s1 rfl
    exact wpAny_pure h
end
section
open PySem PySem.W PyProof.Rows PySem.Calls PySem.Builtin PySem.Builtin.Re
structure PatAt (h : Heap) (P : Addr) (code : Array Nat) : Prop where
  ex : ∃ oP fs C oC items n, h.get? P = some oP ∧ oP.cls = .type "re.Pattern" ∧ oP.dict = none ∧ oP.data = .fields fs ∧ fs.getD 5 .none = .ref C ∧ reRawNat (fs.getD 6 .none) = 0 ∧ reRawNat (fs.getD 2 .none) = 0 ∧ h.get? C = some oC ∧ oC.data = .seq items n ∧ (items.map reRawOf).map (·.toNat) = code
section
variable {M : Model} {A : Around} {E : Value → Shared → Prop} {s : Shared}
theorem target_at {P : Addr} {code : Array Nat} {x : Str} {t : Tok} {Q : ReTarget → Shared → Prop} (hp : PatAt s.heap P code) (hx : x.length ≤ 1000000)
    (h : Q ⟨.ref P, .str x t, code, x.cps, 0, 0, 0, x.cps.size⟩ s) : wpAny M A (reTarget "re.Pattern.search" "search" ⟨[.ref P, .str x t], []⟩) Q E s := by
  obtain ⟨oP, fs, C, oC, items, n, g1, g2, g3, g4, g5, g6, g7, g8, g9, g10⟩ := hp.ex
  unfold reTarget
  dsimp only
  rw [named_eq]
  refine wpAny_bind (wpAny_pure ?_)
  dsimp only
  refine wpAny_bind (wpAny_pure ?_)
  refine wpAny_bind (wpAny_pure ?_)
  refine wpAny_bind ?_
  unfold fieldsOf
  refine wpAny_bind (wpAny_load g1 ?_)
  rw [g4]
  refine wpAny_pure ?_
  refine wpAny_bind ?_
  unfold reTextOf
  refine wpAny_bind (wpAny_pure ?_)
  dsimp only
  refine wpAny_pure ?_
  dsimp only
  rw [g6]
  simp only [show ((0 : Nat) == 0 && (0 : Nat) == 1) = false from rfl, show ((0 : Nat) == 1 && (0 : Nat) == 0) = false from rfl, Bool.false_eq_true, if_false]
  refine wpAny_bind ?_
  unfold reNoCollectionInside
  simp only [show ((0 : Nat) == 1) = false from rfl, Bool.false_eq_true, if_false]
  refine wpAny_pure ?_
  rw [g5, g7]
  refine wpAny_bind ?_
  unfold reRawItems seqItems?
  refine wpAny_bind ?_
  refine wpAny_bind (wpAny_load g8 ?_)
  rw [g9]
  refine wpAny_pure ?_
  refine wpAny_pure ?_
  refine wpAny_pure ?_
  simp only [Option.getD_some, g10]
  have e1 : Min.min (Int.toNat 0) x.cps.size = 0 := by simp
  have e2 : Min.min (2 ^ 63 - 1 : Int).toNat x.cps.size = x.cps.size := by
    apply Nat.min_eq_right
    unfold Str.length at hx
    omega
  rw [e1, e2]
  exact h
end
section
variable {prog : Program} {w : World} {A : Around} {E : Value → Shared → Prop} {s : Shared}
theorem search_rule {P : Addr} {code : Array Nat} {k : Nat} {x : Str} {t : Tok} {Q : Value → Shared → Prop} (hp : PatAt s.heap P code) (hx : x.length ≤ 1000000) (hh : Sre.header code = (1, k)) (h2 : code.getD 2 0 = 4) (h0 : Sre.ops[code.getD 0 0]? = some .INFO)
    (hc : ∀ c ∈ x.cps.toList, Out code c) (h : Q .none s) : wpAny (model prog w) A (call (.builtin "re.Pattern.search") [.ref P, .str x t]) Q E s := by
  have hT : s.TypeIs (.ref P) "re.Pattern" := by
    obtain ⟨oP, fs, C, oC, items, n, g1, g2, _⟩ := hp.ex
    exact ⟨_, g1, g2⟩
  refine call_meets (S := fun _ R s' => s' = s ∧ R (.ok (.ret .none)) s) slot_search hT entry_search (args_search_2 _ _) (.of_wp fun prog w A R s' h' => ?_) ⟨rfl, h⟩
  obtain ⟨rfl, h'⟩ := h'
  unfold Builtin.«re.Pattern.search»
  refine wpAny_bind (target_at hp hx ?_)
  unfold reAnswer
  refine wpAny_bind (run_none (for_done hh h2 h0 hc) ?_)
  exact wpAny_pure ⟨_, rfl, h'⟩
theorem search_name {P : Addr} {x : Str} {t : Tok} {Q : Value → Shared → Prop} (hp : PatAt s.heap P nameCode) (hx : x.length ≤ 1000000) (hc : Clean x.cps) (h : Q .none s) : wpAny (model prog w) A (call (.builtin "re.Pattern.search") [.ref P, .str x t]) Q E s :=
  search_rule (k := 11) hp hx (by rfl) (by rfl) (by rfl) (fun c h9 => out_name (hc c h9)) h
theorem search_value {P : Addr} {x : Str} {t : Tok} {Q : Value → Shared → Prop} (hp : PatAt s.heap P valueCode) (hx : x.length ≤ 1000000) (hc : Clean x.cps) (h : Q .none s) : wpAny (model prog w) A (call (.builtin "re.Pattern.search") [.ref P, .str x t]) Q E s :=
  search_rule (k := 15) hp hx (by rfl) (by rfl) (by rfl) (fun c h9 => out_value (hc c h9)) h
theorem method_search {P : Addr} {code : Array Nat} {pl : Sem Bool} {Q : Value × List Value → Shared → Prop} (hp : PatAt s.heap P code) (h : Q (.builtin "re.Pattern.search", [.ref P]) s) :
    wpAny (model prog w) A (getMethod (.ref P) (Str.ofString "search") pl) Q E s := by
  obtain ⟨oP, fs, C, oC, items, n, g1, g2, g3, _⟩ := hp.ex
  exact getMethod_builtin ⟨_, g1, g2⟩ plainAttrs_pat slot_search type_search (fun a e => by cases e; exact ⟨_, g1, g3⟩) h
end
end
section
open PySem PySem.W PyProof.Rows PySem.Calls PySem.Builtin PySem.Builtin.Str
def lo (c : Nat) : Nat := if 65 ≤ c ∧ c ≤ 90 then c + 32 else c
def up (c : Nat) : Nat := if 97 ≤ c ∧ c ≤ 122 then c - 32 else c
def sw (c : Nat) : Nat := if 65 ≤ c ∧ c ≤ 90 then c + 32 else if 97 ≤ c ∧ c ≤ 122 then c - 32 else c
theorem lower_c : ∀ c : Nat, c < 128 → Unicode.lowerOf c = [lo c] := by decide +kernel
theorem upper_c : ∀ c : Nat, c < 128 → Unicode.upperOf c = [up c] := by decide +kernel
theorem placed_one (x : Str) (f : Nat → Nat → List Nat) (g : Nat → Nat) (h : ∀ i c, x.cps.toList[i]? = some c → f i c = [g c]) : placed x f = (x.cps.toList.map g).toArray := by
  unfold placed
  apply Array.toList_inj.mp
  have e : (x.cps.mapIdx fun i c => (f i c).toArray) = (x.cps.map fun c => #[g c]) := by
    apply Array.ext
    · simp
    · intro i h1 h2
      have hi : i < x.cps.size := by simpa using h1
      have := h i (x.cps[i]) (by simp [hi])
      simp [this]
  rw [e]
  have this : ∀ l : List Nat, (List.map (Array.toList ∘ fun c => #[g c]) l).flatten = l.map g := by
    intro l
    induction l with
    | nil => rfl
    | cons a r ih => rw [List.map_cons, List.flatten_cons, ih]; rfl
  obtain ⟨⟨l⟩⟩ := x
  simp [this]
theorem lowerAt_c {x : Str} {i c : Nat} (h : x.cps.toList[i]? = some c) (hc : c < 128) : Unicode.lowerAt x.cps i = [lo c] := by
  unfold Unicode.lowerAt
  have : x.cps[i]? = some c := by simpa using h
  rw [this]
  have h3 : (c == 0x3A3) = false := by simp; omega
  simp [h3, lower_c c hc]
def Asc (l : List Nat) : Prop := ∀ c ∈ l, c < 128
theorem lower_tx {l : List Nat} (h : Asc l) : Txt.lower (tx l) = tx (l.map lo) := by
  unfold Txt.lower
  rw [placed_one (tx l) _ lo (fun i c e => lowerAt_c e (h c (by rw [tx_cps] at e; exact List.mem_of_getElem? e))), tx_cps]
  rfl
theorem upper_tx {l : List Nat} (h : Asc l) : Txt.upper (tx l) = tx (l.map up) := by
  unfold Txt.upper
  rw [placed_one (tx l) _ up (fun i c e => upper_c c (h c (by rw [tx_cps] at e; exact List.mem_of_getElem? e))), tx_cps]
  rfl
section
variable {prog : Program} {w : World} {A : Around} {E : Value → Shared → Prop} {s : Shared} {h₀ : Heap} {env : Env} {target : Expr} {body : List Stmt} {Q : Flow → Shared → Prop}
/-- a turn's end -/
def EndJ (h₀ : Heap) (L : Addr) (s₁ : Shared) (it : Addr × Obj) (J : (Str → Option Value) → List (Addr × Obj) → Prop) (s₂ : Shared) : Prop :=
  ∃ h' tk m' news', s₂ = { s₁ with heap := h', toks := tk } ∧ Fr h₀ L h' m' ∧ News h₀ L h' (it :: news') ∧ (∀ p ∈ news', p.1 ≠ it.1) ∧ J m' news'
def PostJ (h₀ : Heap) (L : Addr) (s₁ : Shared) (it : Addr × Obj) (J : (Str → Option Value) → List (Addr × Obj) → Prop) (Q : Flow → Shared → Prop) (f : Flow) (s₂ : Shared) : Prop :=
  match f with
  | .ret v => Q (.ret v) s₂
  | .brk => Q .next s₂
  | _ => EndJ h₀ L s₁ it J s₂
theorem iter_J {ax : Addr} {vs : List Value} {nn : Nat} {m₀ : Str → Option Value} {news : List (Addr × Obj)} (J : Nat → (Str → Option Value) → List (Addr × Obj) → Prop)
    (hh : A.handled = none) (F : Fr h₀ env.locals s.heap m₀) (N : News h₀ env.locals s.heap news) (hkeep : ∀ i m n, J i m n → (ax, listOf vs.toArray nn) ∈ n) (hj : J 0 m₀ news)
    (turn : ∀ i v m₁ news₁ h tk (I : Addr) (oI : Obj), vs[i]? = some v → J i m₁ news₁ → (∀ p ∈ news₁, p.1 ≠ I) → Fr h₀ env.locals h m₁ → News h₀ env.locals h ((I, oI) :: news₁) →
      wpAny (model prog w) A (assign target env v) (fun _ s₂ => wpAny (model prog w) A (execs body env) (PostJ h₀ env.locals { s with heap := h, toks := tk } (I, oI) (J (i + 1)) Q) E s₂) E { s with heap := h, toks := tk })
    (done : ∀ m₁ news₁ h tk, J vs.length m₁ news₁ → Fr h₀ env.locals h m₁ → News h₀ env.locals h news₁ → Q .next { s with heap := h, toks := tk }) :
    wpAny (model prog w) A (pyIter (.ref ax)) (fun it s₂ => TurnsAt prog w A h₀ env target body Q E it s₂) E s := by
  refine iter_listTurns hh F N (hkeep _ _ _ hj) rfl rfl fun I hI => ?_
  have all : ∀ (k i : Nat) (m₁ : Str → Option Value) (news₁ : List (Addr × Obj)), i + k = vs.length → J i m₁ news₁ → (∀ p ∈ news₁, p.1 ≠ I) →
      ItemsRest prog w A E h₀ env target body Q s [(I, "list_iterator")] [(ax, listOf vs.toArray nn)] ((vs.drop i).map .val) m₁ news₁ := by
    intro k
    induction k with
    | zero =>
      intro i m₁ news₁ hi hJ hoff
      rw [List.drop_eq_nil_of_le (by omega)]
      obtain rfl : i = vs.length := by omega
      exact fun h tk F' N' => done m₁ news₁ h tk hJ F' N'
    | succ k ih =>
      intro i m₁ news₁ hi hJ hoff
      have hlt : i < vs.length := by omega
      rw [List.drop_eq_getElem_cons hlt]
      intro v h tk hv F'
      have hv' : v = vs[i] := hv
      subst hv'
      intro oI hcls N'
      refine wpAny_mono (turn i _ m₁ news₁ h tk I oI (List.getElem?_eq_getElem hlt) hJ hoff F' N') (fun _ s₂ h₂ => ?_) fun _ _ e => e
      refine wpAny_mono h₂ (fun f s₃ h₃ => ?_) fun _ _ e => e
      have fin : EndJ h₀ env.locals { s with heap := h, toks := tk } (I, oI) (J (i + 1)) s₃ →
          UnrEndW h₀ env.locals { s with heap := h, toks := tk } [(I, oI)] (fun m' n' => SubL [(ax, listOf vs.toArray nn)] n' ∧ ItemsRest prog w A E h₀ env target body Q s [(I, "list_iterator")] [(ax, listOf vs.toArray nn)] ((vs.drop (i + 1)).map .val) m' n') s₃ := by
        rintro ⟨h', tk', m', news', e, F₂, N₂, off, hJ'⟩
        refine ⟨h', tk', m', news', e, F₂, N₂, fun p hp q hq => by rw [List.mem_singleton.mp hq]; exact off p hp, ⟨hkeep _ _ _ hJ', trivial⟩, ih (i + 1) m' news' (by omega) hJ' off⟩
      cases f with
      | ret v => exact h₃
      | brk => exact h₃
      | next => exact fin h₃
      | cont => exact fin h₃
  have := all vs.length 0 m₀ news (by omega) hj (fun p hp => Nat.ne_of_lt (hI p hp))
  simpa using this
/-- a loop that leaves the ledger as it was -/
theorem iter_same {ax : Addr} {vs : List Value} {nn : Nat} {m₀ : Str → Option Value} {news : List (Addr × Obj)} (xs : List Str) (P : Nat → Prop)
    (hh : A.handled = none) (F : Fr h₀ env.locals s.heap m₀) (N : News h₀ env.locals s.heap news) (hm : (ax, listOf vs.toArray nn) ∈ news) (hp : P 0)
    (turn : ∀ i v (u : Str → Option Value) h tk (I : Addr) (oI : Obj), vs[i]? = some v → P i → (∀ p ∈ news, p.1 ≠ I) → Fr h₀ env.locals h (fun z => if xs.contains z = true then u z else m₀ z) → News h₀ env.locals h ((I, oI) :: news) →
      wpAny (model prog w) A (assign target env v) (fun _ s₂ => wpAny (model prog w) A (execs body env) (PostJ h₀ env.locals { s with heap := h, toks := tk } (I, oI) (fun m' n' => n' = news ∧ (∀ z, xs.contains z = false → m' z = m₀ z) ∧ P (i + 1)) Q) E s₂) E { s with heap := h, toks := tk })
    (done : ∀ (u : Str → Option Value) h tk, P vs.length → Fr h₀ env.locals h (fun z => if xs.contains z = true then u z else m₀ z) → News h₀ env.locals h news → Q .next { s with heap := h, toks := tk }) :
    wpAny (model prog w) A (pyIter (.ref ax)) (fun it s₂ => TurnsAt prog w A h₀ env target body Q E it s₂) E s := by
  have em : ∀ m₁ : Str → Option Value, (∀ z, xs.contains z = false → m₁ z = m₀ z) → (fun z => if xs.contains z = true then m₁ z else m₀ z) = m₁ := by
    intro m₁ h
    funext z
    cases hz : xs.contains z with
    | true => simp
    | false => simp [h z hz]
  refine iter_J (nn := nn) (fun i m n => n = news ∧ (∀ z, xs.contains z = false → m z = m₀ z) ∧ P i) hh F N (fun i m n h => h.1 ▸ hm) ⟨rfl, fun _ _ => rfl, hp⟩ ?_ ?_
  · rintro i v m₁ news₁ h tk I oI hv ⟨rfl, hmz, hP⟩ hoff F' N'
    exact turn i v m₁ h tk I oI hv hP hoff (by rw [em m₁ hmz]; exact F') N'
  · rintro m₁ news₁ h tk ⟨rfl, hmz, hP⟩ F' N'
    exact done m₁ h tk hP (by rw [em m₁ hmz]; exact F') N'
end
/-! pairs of texts -/
abbrev PT := List Nat × List Nat
def pairD (p : PT) : Dat := Dat.tuple [Dat.str (tx p.1), Dat.str (tx p.2)]
theorem pair_at {news : List (Addr × Obj)} {v : Value} {p : PT} (h : DatIn news v (pairD p)) : ∃ a t1 t2 n, v = .ref a ∧ (a, ({ cls := .type "tuple", data := .seq [Value.str (tx p.1) t1, Value.str (tx p.2) t2].toArray n } : Obj)) ∈ news := by
  unfold pairD at h
  cases h with
  | tuple hm hd =>
    cases hd with
    | cons h1 h2 => cases h1 with
      | str x t1 => cases h2 with
        | cons h3 h4 => cases h3 with
          | str y t2 => cases h4; exact ⟨_, t1, t2, _, rfl, hm⟩
def getF (ps : List PT) (k : List Nat) : Option (List Nat) := (ps.find? fun p => decide (p.1.map lo = k.map lo)).map (·.2)
structure HdAt (C : Addr) (news : List (Addr × Obj)) (x : Addr) (dx : Addr) (hs : Int) (tk : Tok) (nd : Nat) (lp : Addr) (vs : List Value) (nn : Nat) (ps : List PT) : Prop where
  inst : (x, instObj C dx) ∈ news
  dict : (dx, dictOf [⟨hs, .str (Str.ofString "_headers") tk, .ref lp⟩] nd) ∈ news
  list : (lp, listOf vs.toArray nn) ∈ news
  pairs : DatAll news vs (ps.map pairD)
end
section
open PySem PySem.W PyProof.Rows PySem.Calls
open PyProof.Rows.LCg
theorem compEnd_mono {h₀ : Heap} {L : Addr} {m : Str → Option Value} {s₁ : Shared} {I : Addr} {oI : Obj} {C : Addr} {oC : Obj} {D : Addr} {oD : Obj} {S : List (Addr × Obj) → Prop} {rest rest' : Value → List (Addr × Obj) → Prop} {y : Value} {s₂ : Shared}
    (h : CompEnd h₀ L m s₁ I oI C oC D oD S rest y s₂) (k : ∀ y n, rest y n → rest' y n) : CompEnd h₀ L m s₁ I oI C oC D oD S rest' y s₂ := by
  obtain ⟨h', tk, n', e, F, N, o, s, r⟩ := h
  exact ⟨h', tk, n', e, F, N, o, s, k _ _ r⟩
section
variable {prog : Program} {w : World} {A : Around} {s : Shared} {h₀ : Heap} {L : Addr} {m : Str → Option Value} {env : Env} {elt ct : Expr} {x x₂ : Str} {scope : Scope} {cl : List (Str × Addr)} {S : List (Addr × Obj) → Prop} {P : Nat → Value → Prop} {Fin : List Value → List (Addr × Obj) → Prop}
theorem compP_J (J : Nat → List Value → List (Addr × Obj) → Prop) {n : Nat}
    (turn : ∀ i ys news, i < n → J i ys news → ∀ v, P i v → ∃ (t : Addr) (ot : Obj) (v₁ v₂ : Value) (nt : Nat), v = .ref t ∧ (t, ot) ∈ news ∧ ot.cls = .type "tuple" ∧ ot.data = .seq #[v₁, v₂] nt ∧
      ∀ I oI C oC D m₂ h tk (E' : Value → Shared → Prop), NsObj oC m₂ → m₂ x = some v₁ → m₂ x₂ = some v₂ → Fr h₀ L h m → News h₀ L h ((I, oI) :: (C, oC) :: (D, lst ys) :: news) → Off3 I C D news → ((@Ne Nat I C) ∧ (@Ne Nat I D) ∧ (@Ne Nat C D)) →
      wpAny (model prog w) A (eval elt (compEnvC scope cl C env)) (CompEnd h₀ L m { s with heap := h, toks := tk } I oI C oC D (lst ys) S (fun y news' => J (i + 1) (ys ++ [y]) news')) E' { s with heap := h, toks := tk })
    (fin : ∀ ys news, J n ys news → Fin ys news) : ∀ (k i : Nat) (ys : List Value) (news : List (Addr × Obj)), i + k = n → J i ys news → LCp.CompRestP prog w A h₀ L m env elt x x₂ scope cl s S P Fin k i ys news
  | 0, i, ys, news, hi, hJ => by
    obtain rfl : i = n := by omega
    exact fin ys news hJ
  | k + 1, i, ys, news, hi, hJ => by
    intro v hv
    obtain ⟨t, ot, v₁, v₂, nt, e1, e2, e3, e4, go⟩ := turn i ys news (by omega) hJ v hv
    refine ⟨t, ot, v₁, v₂, nt, e1, e2, e3, e4, fun I oI C oC D m₂ h tk E' a b c d e f g => ?_⟩
    exact wpAny_mono (go I oI C oC D m₂ h tk E' a b c d e f g) (fun y s₂ z => compEnd_mono z fun y' n' r => compP_J J turn fin k (i + 1) _ n' (by omega) r) fun _ _ x => x
theorem compU_J (J : Nat → List Value → List (Addr × Obj) → Prop) {n : Nat}
    (turn : ∀ i ys news, i < n → J i ys news → ∀ v I oI C oC D m₂ h tk (E' : Value → Shared → Prop), P i v → NsObj oC m₂ → m₂ x = some v → Fr h₀ L h m → News h₀ L h ((I, oI) :: (C, oC) :: (D, lst ys) :: news) → Off3 I C D news → ((@Ne Nat I C) ∧ (@Ne Nat I D) ∧ (@Ne Nat C D)) →
      wpAny (model prog w) A (eval elt (compEnvC scope cl C env)) (CompEnd h₀ L m { s with heap := h, toks := tk } I oI C oC D (lst ys) S (fun y news' => J (i + 1) (ys ++ [y]) news')) E' { s with heap := h, toks := tk })
    (fin : ∀ ys news, J n ys news → Fin ys news) : ∀ (k i : Nat) (ys : List Value) (news : List (Addr × Obj)), i + k = n → J i ys news → CompRest prog w A h₀ L m env elt x scope cl s S P Fin k i ys news
  | 0, i, ys, news, hi, hJ => by
    obtain rfl : i = n := by omega
    exact fin ys news hJ
  | k + 1, i, ys, news, hi, hJ => by
    intro v I oI C oC D m₂ h tk E' hv a b d e f g
    exact wpAny_mono (turn i ys news (by omega) hJ v I oI C oC D m₂ h tk E' hv a b d e f g) (fun y s₂ z => compEnd_mono z fun y' n' r => compU_J J turn fin k (i + 1) _ n' (by omega) r) fun _ _ x => x
theorem compT_J (J : Nat → List Value → List (Addr × Obj) → Prop) {n : Nat}
    (turn : ∀ i ys news, i < n → J i ys news → ∀ v I oI C oC D m₂ h tk (E' : Value → Shared → Prop), P i v → NsObj oC m₂ → m₂ x = some v → Fr h₀ L h m → News h₀ L h ((I, oI) :: (C, oC) :: (D, lst ys) :: news) → Off3 I C D news → ((@Ne Nat I C) ∧ (@Ne Nat I D) ∧ (@Ne Nat C D)) →
      wpAny (model prog w) A (isTrue ct (compEnvC scope cl C env) (eval ct (compEnvC scope cl C env))) (fun ok s' => if ok = true then
        wpAny (model prog w) A (eval elt (compEnvC scope cl C env)) (CompEnd h₀ L m { s with heap := h, toks := tk } I oI C oC D (lst ys) S (fun y news' => J (i + 1) (ys ++ [y]) news')) E' s'
        else CompEnd h₀ L m { s with heap := h, toks := tk } I oI C oC D (lst ys) S (fun _ news' => J (i + 1) ys news') Value.none s') E' { s with heap := h, toks := tk })
    (fin : ∀ ys news, J n ys news → Fin ys news) : ∀ (k i : Nat) (ys : List Value) (news : List (Addr × Obj)), i + k = n → J i ys news → LCt.CompRestT prog w A h₀ L m env ct elt x scope cl s S P Fin k i ys news
  | 0, i, ys, news, hi, hJ => by
    obtain rfl : i = n := by omega
    exact fin ys news hJ
  | k + 1, i, ys, news, hi, hJ => by
    intro v I oI C oC D m₂ h tk E' hv a b d e f g
    refine wpAny_mono (turn i ys news (by omega) hJ v I oI C oC D m₂ h tk E' hv a b d e f g) (fun ok s' z => ?_) fun _ _ x => x
    cases ok with
    | true =>
      simp only [if_true] at z ⊢
      exact wpAny_mono z (fun y s₂ z => compEnd_mono z fun y' n' r => compT_J J turn fin k (i + 1) _ n' (by omega) r) fun _ _ x => x
    | false =>
      simp only [Bool.false_eq_true, if_false] at z ⊢
      exact compEnd_mono z fun y' n' r => compT_J J turn fin k (i + 1) _ n' (by omega) r
end
/-- what the element's walk hands over where the ledger stays -/
theorem compEnd_same {h₀ : Heap} {L : Addr} {m : Str → Option Value} {s₁ : Shared} {I : Addr} {oI : Obj} {C : Addr} {oC : Obj} {D : Addr} {oD : Obj} {S : List (Addr × Obj) → Prop} {rest : Value → List (Addr × Obj) → Prop} {y : Value} {h' : Heap} {tk : Nat} {news : List (Addr × Obj)}
    (F : Fr h₀ L h' m) (N : News h₀ L h' ((I, oI) :: (C, oC) :: (D, oD) :: news)) (off : Off3 I C D news) (hS : S news) (r : rest y news) :
    CompEnd h₀ L m s₁ I oI C oC D oD S rest y { s₁ with heap := h', toks := tk } := ⟨h', tk, news, rfl, F, N, off, hS, r⟩
theorem off1_mem {D : Addr} : ∀ {l : List (Addr × Obj)}, Off1 D l → ∀ p ∈ l, p.1 ≠ D
  | [], _, _, h => nomatch h
  | q :: r, h, p, hp => by
    rcases List.mem_cons.mp hp with rfl | hp
    · exact h.1
    · exact off1_mem h.2 p hp
end
section
open PySem PySem.W PyProof.Rows PySem.Calls
end
section
open PySem PySem.W PyProof.Rows PySem.Calls
section
variable {prog : Program} {w : World} {A : Around} {E : Value → Shared → Prop} {s : Shared} {env : Env} {h₀ : Heap} {x : Str} {body : List Stmt} {Q : Flow → Shared → Prop}
/-- what a turn of a range's loop leaves: the names told, the others as they were, the ledger anyhow -/
def RngS {σ : Type} (J : σ → List (Addr × Obj) → Prop) (ps : σ → List (Str × Value)) (x : Str) (stored : List Str) (m₀ : Str → Option Value) (m' : Str → Option Value) (nx : List (Addr × Obj)) : Prop :=
  ∃ c, (∀ p ∈ ps c, m' p.1 = some p.2) ∧ (∀ z, z ≠ x → (∀ p ∈ ps c, z ≠ p.1) → stored.contains z = false → m' z = m₀ z) ∧ J c nx
theorem range_S {σ : Type} {r : Addr} {a₀ b₀ : Int} {t₀ u₀ v₀ : Tok} {n : Nat} {m₀ : Str → Option Value} {news : List (Addr × Obj)} (J : Nat → σ → List (Addr × Obj) → Prop) (ps : σ → List (Str × Value)) (stored : List Str) (c₀ : σ)
    (hh : A.handled = none) (hr : IsRange s.heap r a₀ b₀ 1 t₀ u₀ v₀) (hsmall : Builtin.Range.small a₀ b₀ 1 = true) (hsz : Builtin.Range.rangeSize a₀ b₀ 1 = (n : Int)) (F : Fr h₀ env.locals s.heap m₀) (N : News h₀ env.locals s.heap news) (hk : ∀ p ∈ ps c₀, m₀ p.1 = some p.2) (hj : J 0 c₀ news)
    (turn : ∀ (i : Nat) (c : σ) (nx : List (Addr × Obj)) t (u : Str → Option Value) h tk own, i < n → OwnOff own (nx.map (·.1)) → J i c nx →
      Fr h₀ env.locals h (fun y => if y = x then some (.int (a₀ + (i : Int)) t) else kstB (fun z => if stored.contains z then u z else m₀ z) (ps c) y) → News h₀ env.locals h (nx ++ own) →
      wpAny (model prog w) A (execs body env) (InvPostG h₀ env.locals (RngS (J (i + 1)) ps x stored m₀) own { s with heap := h, toks := tk } Q) E { s with heap := h, toks := tk })
    (done : ∀ (c : σ) (nx : List (Addr × Obj)) (u : Str → Option Value) h tk, J n c nx → Fr h₀ env.locals h (fun y => if y = x then u y else kstB (fun z => if stored.contains z then u z else m₀ z) (ps c) y) → News h₀ env.locals h nx → Q .next { s with heap := h, toks := tk }) :
    wpAny (model prog w) A (pyIter (.ref r)) (fun it s₂ => LoopAtV prog w A h₀ env x body Q E it s₂) E s := by
  refine wpAny_pyIter_range hr hsmall ?_
  have W : Walks prog w A s.heap.objs.size [s.heap.objs.size] [s.heap.objs.size] n (fun i v => i < n ∧ ∃ t, v = .int (a₀ + i * 1) t)
      (fun i h => IsRangeIter h s.heap.objs.size (a₀ + (i : Nat) * 1) ((n : Int) - (i : Nat)) 1) := (Walks.range hh _ a₀ 1 n).bound
  refine kdr_loop (fun i m nx => RngS (J i) ps x stored m₀ m nx) W (fun _ h => h) (fun _ h => h) ?_ ?_ ?_ ?_ (by show IsRangeIter _ _ _ _ _; rw [hsz]; simpa using Heap.get?_push_size _ rfl) (F.push _) (fun p hp => ⟨Heap.get?_push_of_some _ (N p hp).1, (N p hp).2⟩) ⟨c₀, hk, fun _ _ _ _ => rfl, hj⟩ ?_ ?_
  · intro i h hi b hb
    rw [List.mem_singleton.mp hb]
    exact ⟨_, hi⟩
  · intro hm
    exact absurd F.ns.lt ((List.mem_singleton.mp hm) ▸ Nat.lt_irrefl _)
  · intro b hb
    rw [List.mem_singleton.mp hb]
    exact next_is_new F
  · intro p hp hI
    exact absurd (Heap.lt_size (N p hp).1) ((List.mem_singleton.mp hI) ▸ Nat.lt_irrefl _)
  · rintro i v m₁ nx h tk own hi ⟨_, t, rfl⟩ hoff ⟨c, h1, h2, hJ⟩ F₁ N₁
    have e1 : a₀ + (i : Int) * 1 = a₀ + (i : Int) := by omega
    rw [e1] at F₁
    exact turn i c nx t m₁ h tk own hi hoff hJ (kst_fr h1 h2 F₁) N₁
  · rintro m₁ nx h tk ⟨c, h1, h2, hJ⟩ F₁ N₁
    exact done c nx m₁ h tk hJ (kst_frOut h1 h2 F₁) N₁
theorem rng_end {σ : Type} {J : σ → List (Addr × Obj) → Prop} {ps : σ → List (Str × Value)} {stored : List Str} {m₀ : Str → Option Value} (c : σ) (nx : List (Addr × Obj)) {L : Addr} {m' : Str → Option Value} {own news' : List (Addr × Obj)} {s₁ : Shared} {h' : Heap} {tk : Nat}
    (F : Fr h₀ L h' m') (N : News h₀ L h' news') (hn : ∀ p ∈ nx, p ∈ news') (ho : ∀ p ∈ own, p ∈ news') (hoff : OwnOff own (nx.map (·.1)))
    (hk : ∀ p ∈ ps c, m' p.1 = some p.2) (hr : ∀ z, z ≠ x → (∀ p ∈ ps c, z ≠ p.1) → stored.contains z = false → m' z = m₀ z) (hj : J c nx) :
    InvEndG h₀ L (RngS J ps x stored m₀) own s₁ { s₁ with heap := h', toks := tk } :=
  ⟨h', tk, m', news', nx, rfl, F, N, hn, ho, hoff, c, hk, hr, hj⟩
theorem allLt_ne {D : Addr} : ∀ {l : List (Addr × Obj)}, AllLt D l → ∀ p ∈ l, p.1 ≠ D
  | [], _, _, h => nomatch h
  | q :: r, h, p, hp => by
    rcases List.mem_cons.mp hp with rfl | hp
    · exact Nat.ne_of_lt h.1
    · exact allLt_ne h.2 p hp
end
end
section
open PySem PySem.W PyProof.Rows PySem.Calls
def dec (n : Nat) : List Nat := if n < 10 then [48 + n] else [48 + n / 10, 48 + n % 10]
def delF (ps : List PT) (k : List Nat) : List PT := ps.filter fun p => decide (p.1.map lo ≠ k.map lo)
def ring0 (size : Nat) : List PT := (List.range size).map (fun j => ([97 + j], [])) ++ [([64 + size], [32, 48])]
def heardOf (ps : List PT) (k0 : List Nat) (i : Nat) : List Nat := (getF ps (k0.map sw)).getD [] ++ [32] ++ dec (i + 1)
def ringStep (step i : Nat) (st : List PT × List PT) : List PT × List PT :=
  match st.1 with
  | [] => st
  | (k0, _) :: _ =>
    if (i + 1) % step = 0 then (delF st.1 (k0.map sw), st.2 ++ [(k0, heardOf st.1 k0 i)]) else (delF st.1 (k0.map sw) ++ [(k0.map sw, heardOf st.1 k0 i)], st.2)
def ringN (size step : Nat) : Nat → List PT × List PT
  | 0 => (ring0 size, [])
  | i + 1 => ringStep step i (ringN size step i)
def okText (l : List Nat) : Bool := decide (l.length ≤ 900) && l.all fun c => decide (32 ≤ c) && decide (c < 127)
def ringOk (i : Nat) (st : List PT × List PT) : Bool :=
  match st.1 with
  | [] => false
  | (k0, _) :: _ => okText k0 && okText (k0.map sw) && okText (heardOf st.1 k0 i) && (getF st.1 (k0.map sw)).isSome && decide (st.1.length ≤ 100) && decide (st.2.length ≤ 100) && st.1.all fun p => okText p.1 && okText p.2
structure OkT (l : List Nat) : Prop where
  len : l.length ≤ 900
  cs : ∀ c ∈ l, 32 ≤ c ∧ c < 127
theorem OkT.asc {l : List Nat} (h : OkT l) : Asc l := fun c hc => Nat.lt_of_lt_of_le (h.cs c hc).2 (by omega)
structure RingOk (i : Nat) (ps gs : List PT) (k0 y0 : List Nat) (r : List PT) (y : List Nat) : Prop where
  ps_eq : ps = (k0, y0) :: r
  k0_ok : OkT k0
  sw_ok : OkT (k0.map sw)
  heard_ok : OkT (y ++ [32] ++ dec (i + 1))
  get_eq : getF ps (k0.map sw) = some y
  len : ps.length ≤ 100
  glen : gs.length ≤ 100
  all : ∀ p ∈ ps, OkT p.1 ∧ OkT p.2
end
section
open PySem PySem.W PyProof.Rows PySem.Calls
section
variable {prog : Program} {w : World} {A : Around} {E : Value → Shared → Prop} {s : Shared} {env : Env} {h₀ : Heap} {x : Str} {body : List Stmt} {Q : Flow → Shared → Prop}
/-- a range's loop of any step; of the names told at a turn's end (ps), those of ps' are known in the next turn -/
theorem range_D {σ : Type} {r : Addr} {a₀ b₀ st : Int} {t₀ u₀ v₀ : Tok} {n : Nat} {m₀ : Str → Option Value} {news : List (Addr × Obj)} (J : Nat → σ → List (Addr × Obj) → Prop) (ps ps' : σ → List (Str × Value)) (stored : List Str) (c₀ : σ)
    (hh : A.handled = none) (hr : IsRange s.heap r a₀ b₀ st t₀ u₀ v₀) (hsmall : Builtin.Range.small a₀ b₀ st = true) (hsz : Builtin.Range.rangeSize a₀ b₀ st = (n : Int)) (F : Fr h₀ env.locals s.heap m₀) (N : News h₀ env.locals s.heap news) (hk : ∀ p ∈ ps c₀, m₀ p.1 = some p.2) (hj : J 0 c₀ news)
    (hps : ∀ c, ∀ p ∈ ps' c, p ∈ ps c) (hpt : ∀ c, ∀ p ∈ ps c, p ∈ ps' c ∨ stored.contains p.1 = true)
    (turn : ∀ (i : Nat) (c : σ) (nx : List (Addr × Obj)) t (u : Str → Option Value) h tk own, i < n → OwnOff own (nx.map (·.1)) → J i c nx →
      Fr h₀ env.locals h (fun y => if y = x then some (.int (a₀ + (i : Int) * st) t) else kstB (fun z => if stored.contains z then u z else m₀ z) (ps' c) y) → News h₀ env.locals h (nx ++ own) →
      wpAny (model prog w) A (execs body env) (InvPostG h₀ env.locals (RngS (J (i + 1)) ps x stored m₀) own { s with heap := h, toks := tk } Q) E { s with heap := h, toks := tk })
    (done : ∀ (c : σ) (nx : List (Addr × Obj)) (u : Str → Option Value) h tk, J n c nx → Fr h₀ env.locals h (fun y => if y = x then u y else kstB (fun z => if stored.contains z then u z else m₀ z) (ps c) y) → News h₀ env.locals h nx → Q .next { s with heap := h, toks := tk }) :
    wpAny (model prog w) A (pyIter (.ref r)) (fun it s₂ => LoopAtV prog w A h₀ env x body Q E it s₂) E s := by
  refine wpAny_pyIter_range hr hsmall ?_
  have W : Walks prog w A s.heap.objs.size [s.heap.objs.size] [s.heap.objs.size] n (fun i v => i < n ∧ ∃ t, v = .int (a₀ + i * st) t)
      (fun i h => IsRangeIter h s.heap.objs.size (a₀ + (i : Nat) * st) ((n : Int) - (i : Nat)) st) := (Walks.range hh _ a₀ st n).bound
  refine kdr_loop (fun i m nx => RngS (J i) ps x stored m₀ m nx) W (fun _ h => h) (fun _ h => h) ?_ ?_ ?_ ?_ (by show IsRangeIter _ _ _ _ _; rw [hsz]; simpa using Heap.get?_push_size _ rfl) (F.push _) (fun p hp => ⟨Heap.get?_push_of_some _ (N p hp).1, (N p hp).2⟩) ⟨c₀, hk, fun _ _ _ _ => rfl, hj⟩ ?_ ?_
  · intro i h hi b hb
    rw [List.mem_singleton.mp hb]
    exact ⟨_, hi⟩
  · intro hm
    exact absurd F.ns.lt ((List.mem_singleton.mp hm) ▸ Nat.lt_irrefl _)
  · intro b hb
    rw [List.mem_singleton.mp hb]
    exact next_is_new F
  · intro p hp hI
    exact absurd (Heap.lt_size (N p hp).1) ((List.mem_singleton.mp hI) ▸ Nat.lt_irrefl _)
  · rintro i v m₁ nx h tk own hi ⟨_, t, rfl⟩ hoff ⟨c, h1, h2, hJ⟩ F₁ N₁
    refine turn i c nx t m₁ h tk own hi hoff hJ (kst_fr (fun p hp => h1 p (hps c p hp)) (fun z hz hz2 hz3 => h2 z hz (fun p hp e => ?_) hz3) F₁) N₁
    rcases hpt c p hp with hp' | hp'
    · exact hz2 p hp' e
    · rw [← e, hz3] at hp'
      exact Bool.false_ne_true hp'
  · rintro m₁ nx h tk ⟨c, h1, h2, hJ⟩ F₁ N₁
    exact done c nx m₁ h tk hJ (kst_frOut h1 h2 F₁) N₁
/-- the same, the ledger as it was -/
theorem range_F {σ : Type} {r : Addr} {a₀ b₀ st : Int} {t₀ u₀ v₀ : Tok} {n : Nat} {m₀ : Str → Option Value} {news : List (Addr × Obj)} (P : Nat → σ → Prop) (ps : σ → List (Str × Value)) (stored : List Str) (c₀ : σ)
    (hh : A.handled = none) (hr : IsRange s.heap r a₀ b₀ st t₀ u₀ v₀) (hsmall : Builtin.Range.small a₀ b₀ st = true) (hsz : Builtin.Range.rangeSize a₀ b₀ st = (n : Int)) (F : Fr h₀ env.locals s.heap m₀) (N : News h₀ env.locals s.heap news) (hk : ∀ p ∈ ps c₀, m₀ p.1 = some p.2) (hj : P 0 c₀)
    (turn : ∀ (i : Nat) (c : σ) t (u : Str → Option Value) h tk own, i < n → OwnOff own (news.map (·.1)) → P i c →
      Fr h₀ env.locals h (fun y => if y = x then some (.int (a₀ + (i : Int) * st) t) else kstB (fun z => if stored.contains z then u z else m₀ z) (ps c) y) → News h₀ env.locals h (news ++ own) →
      wpAny (model prog w) A (execs body env) (InvPostG h₀ env.locals (RngS (fun c nx => nx = news ∧ P (i + 1) c) ps x stored m₀) own { s with heap := h, toks := tk } Q) E { s with heap := h, toks := tk })
    (done : ∀ (c : σ) (u : Str → Option Value) h tk, P n c → Fr h₀ env.locals h (fun y => if y = x then u y else kstB (fun z => if stored.contains z then u z else m₀ z) (ps c) y) → News h₀ env.locals h news → Q .next { s with heap := h, toks := tk }) :
    wpAny (model prog w) A (pyIter (.ref r)) (fun it s₂ => LoopAtV prog w A h₀ env x body Q E it s₂) E s :=
  range_D (fun i c nx => nx = news ∧ P i c) ps ps stored c₀ hh hr hsmall hsz F N hk ⟨rfl, hj⟩ (fun _ _ h => h) (fun _ _ h => .inl h)
    (fun i c nx t u h tk own hi ho hJ F2 N2 => by obtain ⟨e, hP⟩ := hJ; subst e; exact turn i c t u h tk own hi ho hP F2 N2)
    (fun c nx u h tk hJ F2 N2 => by obtain ⟨e, hP⟩ := hJ; subst e; exact done c u h tk hP F2 N2)
theorem rng_same {σ : Type} {P : σ → Prop} {ps : σ → List (Str × Value)} {stored : List Str} {m₀ : Str → Option Value} (c : σ) {L : Addr} {m' : Str → Option Value} {own news : List (Addr × Obj)} {s₁ : Shared} {h' : Heap} {tk : Nat}
    (F : Fr h₀ L h' m') (N : News h₀ L h' (news ++ own)) (hoff : OwnOff own (news.map (·.1)))
    (hk : ∀ p ∈ ps c, m' p.1 = some p.2) (hr : ∀ z, z ≠ x → (∀ p ∈ ps c, z ≠ p.1) → stored.contains z = false → m' z = m₀ z) (hj : P c) :
    InvEndG h₀ L (RngS (fun c nx => nx = news ∧ P c) ps x stored m₀) own s₁ { s₁ with heap := h', toks := tk } :=
  rng_end c news F N (fun p hp => List.mem_append.mpr (.inl hp)) (fun p hp => List.mem_append.mpr (.inr hp)) hoff hk hr ⟨rfl, hj⟩
end
end
section
open PySem PySem.W PyProof.Rows PySem.Calls
def dueP (size step : Nat) (row : List Int) : Nat := bisR row ((size : Int) * ((step : Int) - 1)) 0 row.length
def heardU (size step : Nat) (row : List Int) (p : Nat) : Nat → List Nat
  | 0 => []
  | i + 1 => heardU size step row p i ++ [32] ++ dec ((size : Int) * (step : Int) + 1 - row.getD (p - i) 0).toNat
def nameC (size step : Nat) (row : List Int) (p : Nat) : Nat := (97 + (size : Int) * (step : Int) - row.getD p 0).toNat
def nameU (size step : Nat) (row : List Int) (p : Nat) : List Nat := if p % 2 = 1 then [up (nameC size step row p)] else [nameC size step row p]
def dueOne (size step : Nat) (row : List Int) : PT := (nameU size step row (dueP size step row), heardU size step row (dueP size step row) (dueP size step row + 1))
def dueN (size step r : Nat) : Nat → List PT
  | 0 => []
  | i + 1 => dueN size step r i ++ [dueOne size step (rowF step r (size - 1 - i))]
def gapsU (row : List Int) : List Int := (List.range (row.length - 1)).map fun t => row.getD (t + 1) 0 - row.getD t 0
def dueOk (size step : Nat) (row : List Int) : Bool :=
  decide (dueP size step row < row.length) && decide (row.length ≤ 50) && decide (97 ≤ 97 + (size : Int) * (step : Int) - row.getD (dueP size step row) 0) && decide (97 + (size : Int) * (step : Int) - row.getD (dueP size step row) 0 ≤ 122)
    && (List.range (dueP size step row + 1)).all fun t => decide (0 ≤ (size : Int) * (step : Int) + 1 - row.getD t 0) && decide ((size : Int) * (step : Int) + 1 - row.getD t 0 < 100)
def toldOk (size step : Nat) (row : List Int) : Bool :=
  let p := dueP size step row
  decide (bisR (gapsU row) size 0 (gapsU row).length = p) && decide (bisR (gapsU row) 0 p (gapsU row).length = p) && decide (bisR (gapsU row) 6 0 p = p) && decide (bisR (row.map fun n => n - (size : Int) * ((step : Int) - 1)) 0 0 row.length = p)
structure DueOk (size step : Nat) (row : List Int) (p : Nat) : Prop where
  p_eq : p = dueP size step row
  lt : p < row.length
  len : row.length ≤ 50
  lo97 : 97 ≤ 97 + (size : Int) * (step : Int) - row.getD p 0
  hi122 : 97 + (size : Int) * (step : Int) - row.getD p 0 ≤ 122
  all : ∀ t, t ≤ p → 0 ≤ (size : Int) * (step : Int) + 1 - row.getD t 0 ∧ (size : Int) * (step : Int) + 1 - row.getD t 0 < 100
def readingsOf (step : Nat) : Nat := if step = 3 then 1 else 2
structure ToldOk (size step : Nat) (row : List Int) (p : Nat) : Prop where
  one : bisR (gapsU row) size 0 (gapsU row).length = p
  two : bisR (gapsU row) 0 p (gapsU row).length = p
  three : bisR (gapsU row) 6 0 p = p
  four : bisR (row.map fun n => n - (size : Int) * ((step : Int) - 1)) 0 0 row.length = p
end
section
open PySem PySem.W PyProof.Rows PySem.Calls
/-- the code table laid aside: empty, or with the one code at that place -/
def TabOk (pos : Pos) (qual : Str) (ps : Array Value) (news : List (Addr × Obj)) : Prop :=
  ps = #[] ∨ ∃ c' oc vs t, ps = #[rawInt pos.line, rawInt pos.col, .ref c'] ∧ (c', oc) ∈ news ∧ oc.data = .fields vs ∧ vs[1]? = some (.str qual t)
/-- the table behind a call: as it was, or with one new code -/
def TabNx (pos : Pos) (qual : Str) (ps ps' : Array Value) (n' news : List (Addr × Obj)) : Prop :=
  ps' = ps ∨ ∃ c' oc vs t, ps' = #[rawInt pos.line, rawInt pos.col, .ref c'] ∧ (c', oc) ∈ n' ∧ oc.data = .fields vs ∧ vs[1]? = some (.str qual t) ∧ ∀ q ∈ news, q.1 < c'
end
section
open PySem PySem.W PyProof.Rows PySem.Calls
open PyProof.Rows.LCg
section
variable {prog : Program} {w : World} {A : Around} {E : Value → Shared → Prop} {s : Shared} {h₀ : Heap} {L : Addr} {m : Str → Option Value} {env : Env}
/-- a comprehension's loop over pairs, with one test -/
theorem loop_PT {ct elt iter : Expr} {elts : List Expr} {x1} {tp : Pos} {scope : Scope} {pos : Pos} {it acc : Value} {env : Env} {R : Result → Shared → Prop} (I : Nat → Shared → Prop)
    (turn : ∀ n s, I n s → wpAny (model prog w) A (pyNext it) (fun r s₁ => match r with
      | none => R (.ok .next) s₁
      | some v => wpAny (model prog w) A (letOwnedTupleGo (.Tuple elts x1 tp) it v) (fun _ s₁' => wpAny (model prog w) A (assign (.Tuple elts x1 tp) env v) (fun _ s₂ =>
          wpAny (model prog w) A (isTrue ct env (eval ct env)) (fun ok s₃ => if ok = true then wpAny (model prog w) A (eval elt env) (fun x s₄ =>
              wpAny (model prog w) A (call (.builtin "list.append") [acc, x]) (fun _ s₅ => ∃ m, m < n ∧ I m s₅) (notedBy (model prog w) A env fun e s' => R (.error e) s') s₄) (notedBy (model prog w) A env fun e s' => R (.error e) s') s₃
            else ∃ m, m < n ∧ I m s₃) (notedBy (model prog w) A env fun e s' => R (.error e) s') s₂)
          (notedBy (model prog w) A env fun e s' => R (.error e) s') s₁') (notedBy (model prog w) A env fun e s' => R (.error e) s') s₁) (notedBy (model prog w) A env fun e s' => R (.error e) s') s)
    (n : Nat) (h : I n s) : codeAny (model prog w) A (.compLoop (.ListComp elt [⟨.Tuple elts x1 tp, iter, [ct], 0⟩] scope pos) 0 it acc env) R s := by
  refine codeAny_loop rfl I (fun n s hI => ?_) n h
  show wpAny _ A ((compTurn (.ListComp elt [⟨.Tuple elts x1 tp, iter, [ct], 0⟩] scope pos) 0 it acc env).onRaise (fun x => do noteFrame x env; theTreesLotGoes x)) _ _ s
  refine wpAny_noted ?_
  rw [compTurn_list]
  refine wpAny_bind (wpAny_standAt (wpAny_bind (wpAny_mono (turn n s hI) (fun r s₁ h₁ => ?_) fun _ _ h' => h')))
  cases r with
  | none => exact wpAny_pure h₁
  | some v =>
    refine wpAny_bind (wpAny_mono h₁ (fun _ s₂ h₂ => wpAny_bind (wpAny_mono h₂ (fun _ s₃ h₃ => wpAny_bind (wpAny_mono (wpAny_tests_one h₃) (fun ok s₄ h₄ => ?_) fun _ _ h' => h')) fun _ _ h' => h')) fun _ _ h' => h')
    cases ok with
    | false => exact wpAny_pure ⟨rfl, h₄⟩
    | true => exact wpAny_bind (wpAny_bind (wpAny_mono h₄ (fun x s₅ h₅ => wpAny_bind (wpAny_mono h₅ (fun _ s₆ h₆ => wpAny_pure (wpAny_pure ⟨rfl, h₆⟩)) fun _ _ h' => h')) fun _ _ h' => h'))
/-- a turn over a pair: the ledger stays -/
def TurnPT (prog : Program) (w : World) (A : Around) (h₀ : Heap) (L : Addr) (m : Str → Option Value) (env : Env) (ct elt : Expr) (x x₂ : Str) (scope : Scope) (cl : List (Str × Addr)) (s : Shared) (news : List (Addr × Obj)) (J : Nat → List Value → Prop) (i : Nat) (v : Value) (ys : List Value) : Prop :=
  ∃ (t : Addr) (ot : Obj) (v₁ v₂ : Value) (nt : Nat), v = .ref t ∧ (t, ot) ∈ news ∧ ot.cls = .type "tuple" ∧ ot.data = .seq #[v₁, v₂] nt ∧
    ∀ I oI C oC D m₂ h tk (E' : Value → Shared → Prop), NsObj oC m₂ → m₂ x = some v₁ → m₂ x₂ = some v₂ → Fr h₀ L h m → News h₀ L h ((I, oI) :: (C, oC) :: (D, lst ys) :: news) → Off3 I C D news → ((@Ne Nat I C) ∧ (@Ne Nat I D) ∧ (@Ne Nat C D)) →
      wpAny (model prog w) A (isTrue ct (compEnvC scope cl C env) (eval ct (compEnvC scope cl C env))) (fun ok s' => if ok = true then
        wpAny (model prog w) A (eval elt (compEnvC scope cl C env)) (CompEnd h₀ L m { s with heap := h, toks := tk } I oI C oC D (lst ys) (fun n' => n' = news) (fun y _ => J (i + 1) (ys ++ [y]))) E' s'
        else CompEnd h₀ L m { s with heap := h, toks := tk } I oI C oC D (lst ys) (fun n' => n' = news) (fun _ _ => J (i + 1) ys) Value.none s') E' { s with heap := h, toks := tk }
def SrcPT (prog : Program) (w : World) (A : Around) (h₀ : Heap) (L : Addr) (m : Str → Option Value) (env : Env) (ct elt : Expr) (x x₂ : Str) (scope : Scope) (cl : List (Str × Addr)) (Q : Value → Shared → Prop) (xv : Value) (s₁ : Shared) : Prop :=
  ∃ (ax : Addr) (its : Array Value) (k : Nat) (news : List (Addr × Obj)) (J : Nat → List Value → Prop), xv = .ref ax ∧ A.handled = none ∧ Fr h₀ L s₁.heap m ∧ News h₀ L s₁.heap news ∧ (ax, ({ cls := .type "list", data := .seq its k } : Obj)) ∈ news ∧ its.size ≤ sizeLine ∧ J 0 [] ∧
    (∀ g i v ys, its[i]? = some v → J i ys → TurnPT prog w A h₀ L m env ct elt x x₂ scope cl { s₁ with heap := g } news J i v ys) ∧
    ∀ ys D h tk, J its.size ys → Fr h₀ L h m → News h₀ L h ((D, lst ys) :: news) → Off1 D news → Q (.ref D) { s₁ with heap := h, toks := tk }
theorem ListComp_PT {ct elt iter : Expr} {x x₂ : Str} {px px₂ tp : Pos} {tk} {scope : Scope} {cl : List (Str × Addr)} {pos : Pos} {Q : Value → Shared → Prop} (F₀ : Fr h₀ L s.heap m)
    (hclos : closureFor scope env = pure cl) (hcell : ∀ y ∈ scope.names, y.2 ≠ .cell) (hkind : scope.kind = .function)
    (hnames : ∀ y ∈ scope.names, y.2 = .local → scope.names.lookup y.1 = some .local) (hx : scope.names.lookup x = some .local) (hx₂ : scope.names.lookup x₂ = some .local) (hxx : x ≠ x₂)
    (h : wpAny (model prog w) A (eval iter env) (SrcPT prog w A h₀ L m env ct elt x x₂ scope cl Q) E s)
    (hs : ∀ x, foldedSetIterable iter env x = pure x := by intro _; rfl) :
    wpAny (model prog w) A (eval (.ListComp elt [⟨.Tuple [.Name x px, .Name x₂ px₂] tk tp, iter, [ct], 0⟩] scope pos) env) Q E s := by
  rw [eval_ListComp]
  refine wpAny_comprehension_free (use := none) rfl hs hclos hkind hnames (wpAny_mono h (fun xv s₁ h₁ => ?_) fun _ _ e => e)
  obtain ⟨ax, its, k, news, J, rfl, hh, F, N, hm, hsz, hJ, turn, fin⟩ := h₁
  have hl : s₁.heap.IsList ax its := ⟨_, (N _ hm).1, rfl, k, rfl⟩
  have hlt : ax < s₁.heap.objs.size := Heap.lt_size (N _ hm).1
  refine wpAny_pyIter_list hl ?_
  have W := Walks.list (prog := prog) (w := w) hh s₁.heap.objs.size ax (Nat.ne_of_lt hlt) its
  have F1 : Fr h₀ L (s₁.heap.push { cls := .type "list_iterator", data := .fields #[.ref ax, .int 0 0] }) m := F.push _
  have N1 : News h₀ L (s₁.heap.push { cls := .type "list_iterator", data := .fields #[.ref ax, .int 0 0] }) news := fun p hp => ⟨Heap.get?_push_of_some _ (N p hp).1, (N p hp).2⟩
  have hI0 : h₀.get? s₁.heap.objs.size = none := next_is_new F
  have hLI : L ≠ s₁.heap.objs.size := Nat.ne_of_lt F.ns.lt
  have hLlt : L < s₁.heap.objs.size := F.ns.lt
  have hst : (s₁.heap.push { cls := .type "list_iterator", data := .fields #[.ref ax, .int 0 0] }).IsListIter s₁.heap.objs.size ax 0 ∧ (s₁.heap.push { cls := .type "list_iterator", data := .fields #[.ref ax, .int 0 0] }).IsList ax its := ⟨⟨_, Heap.get?_push_size _ rfl, rfl, rfl⟩, hl.push _⟩
  have offI : ∀ p ∈ news, p.1 ≠ s₁.heap.objs.size := fun p hp => Nat.ne_of_lt (Heap.lt_size (N p hp).1)
  have hH1 : (s₁.heap.push { cls := .type "list_iterator", data := .fields #[.ref ax, .int 0 0] }).objs.size = s₁.heap.objs.size + 1 := Heap.size_push ..
  generalize hIq : s₁.heap.objs.size = I at W F1 N1 hI0 hLI hst offI hlt hLlt hH1
  generalize hH : s₁.heap.push { cls := .type "list_iterator", data := .fields #[.ref ax, .int 0 0] } = H1 at F1 N1 hst hH1
  refine wpAny_newObj_type (wpAny_newFunctionEnv hcell (by intro y hy; simp at hy) (fun h₁ hns₁ hsb₁ => ?_) hkind)
  dsimp only at hns₁ hsb₁ ⊢
  generalize hH2 : H1.push { cls := .type "list", dict := none, data := .seq ([] : List Value).toArray } = H2 at hns₁ hsb₁ ⊢
  have hC : H2.objs.size = H1.objs.size + 1 := by rw [← hH2, Heap.size_push]
  -- the three new places: I, D, C
  have hDC : H1.objs.size ≠ H2.objs.size := by rw [hC]; exact Nat.ne_of_lt (Nat.lt_succ_self _)
  have hID : I ≠ H1.objs.size := by rw [hH1]; exact Nat.ne_of_lt (Nat.lt_succ_self _)
  have hIC : I ≠ H2.objs.size := by rw [hC, hH1]; exact Nat.ne_of_lt (Nat.lt_succ_of_lt (Nat.lt_succ_self _))
  have new0 : ∀ a, H1.objs.size ≤ a → h₀.get? a = none := fun a ha => by
    cases e : h₀.get? a with
    | none => rfl
    | some o => exact absurd (Heap.lt_size (F1.keep a o e)) (Nat.not_lt.mpr ha)
  have hD0 := new0 H1.objs.size (Nat.le_refl _)
  have hC0 := new0 H2.objs.size (by rw [hC]; exact Nat.le_succ _)
  have hLs : L < H1.objs.size := F1.ns.lt
  have hDL : H1.objs.size ≠ L := Nat.ne_of_gt hLs
  have hCL : H2.objs.size ≠ L := by rw [hC]; exact Nat.ne_of_gt (Nat.lt_succ_of_lt hLs)
  have below : ∀ b o, H1.get? b = some o → b ≠ H2.objs.size ∧ b ≠ H1.objs.size := fun b o e => by
    have hb := Heap.lt_size e
    exact ⟨by rw [hC]; exact Nat.ne_of_lt (Nat.lt_succ_of_lt hb), Nat.ne_of_lt hb⟩
  have old : ∀ b o, H1.get? b = some o → h₁.get? b = some o := fun b o e => hsb₁.extBut b o (below b o e).1 (Heap.get?_push_of_some _ (hH2 ▸ Heap.get?_push_of_some _ e))
  have hacc : h₁.get? H1.objs.size = some (lst []) := hsb₁.extBut _ _ hDC (Heap.get?_push_of_some _ (hH2 ▸ Heap.get?_push_size _ rfl))
  have hst1 := W.frame 0 _ _ hst fun b _ o e => old b o e
  have offn : Off3 I H2.objs.size H1.objs.size news := Off3.of fun p hp => ⟨offI p hp, (below _ _ (N1 p hp).1).1, (below _ _ (N1 p hp).1).2⟩
  have off3 := offn.mem
  have hfp : ∀ b ∈ [I, ax], b ≠ H2.objs.size ∧ b ≠ H1.objs.size := by
    intro b hb
    rcases List.mem_cons.mp hb with rfl | hb
    · exact ⟨hIC, hID⟩
    · rw [List.mem_singleton.mp hb]
      exact ⟨(off3 _ hm).2.1, (off3 _ hm).2.2⟩
  have loop : ∀ (R : Result → Shared → Prop), (∀ ys m' h₂ tk₂, J its.size ys → Fr h₀ L h₂ m → News h₀ L h₂ ((H1.objs.size, lst ys) :: news) → h₂.Ns H2.objs.size m' → R (.ok .next) { s₁ with heap := h₂, toks := tk₂ }) →
      ∀ s₃ : Shared, s₃ = { s₁ with heap := h₁, toks := s₁.toks + ([] : List (Str × Value)).length } →
      codeAny (model prog w) A (.compLoop (.ListComp elt [⟨.Tuple [.Name x px, .Name x₂ px₂] tk tp, iter, [ct], 0⟩] scope pos) 0 (.ref I) (.ref H1.objs.size) (compEnvC scope cl H2.objs.size env)) R s₃ := by
    rintro R hR s₃ rfl
    refine loop_PT (fun k s' => ∃ h' tk i ys m', s' = { s₁ with heap := h', toks := tk } ∧ i ≤ its.size ∧ k = its.size + 1 - i ∧ ys.length ≤ i ∧ (h'.IsListIter I ax i ∧ h'.IsList ax its) ∧ Fr h₀ L h' m ∧ h'.Ns H2.objs.size m' ∧ News h₀ L h' ((H1.objs.size, lst ys) :: news) ∧ J i ys) ?_ (its.size + 1)
      ⟨h₁, _, 0, [], _, rfl, Nat.zero_le _, rfl, Nat.le_refl _, hst1, F1.keeps old, hns₁, fun p hp => ?_, hJ⟩
    · rintro k s' ⟨h', tk, i, ys, m', rfl, hi, rfl, hyl, hst', F', hn', N', hJ'⟩
      have hDlist := N' (H1.objs.size, lst ys) List.mem_cons_self
      by_cases hlt' : i < its.size
      · refine W.item i _ _ _ hlt' hst' fun v h₂ tk₂ hPv hst₂ hk₂ => ?_
        obtain ⟨t, ot, v₁, v₂, nt, rfl, hmt, hct, hdt, go⟩ := turn h₁ i v ys hPv hJ'
        have N₂ : News h₀ L h₂ ((H1.objs.size, lst ys) :: news) := news_but N' hk₂ fun p hp => by
          rcases List.mem_cons.mp hp with rfl | hp
          · exact Ne.symm hID
          · exact offI p hp
        have ht : IsTup h₂ t #[v₁, v₂] := ⟨ot, (N₂ _ (List.mem_cons_of_mem _ hmt)).1, hct, nt, hdt⟩
        refine wpAny_letOwnedTupleGo_listiter hst₂.1 ?_
        refine assign_Tuple_tuple hh ht rfl rfl fun h₅ he => ?_
        have he' : ∀ b o, h₂.get? b = some o → h₅.get? b = some o := fun b o e => he b o (Nat.ne_of_lt (Heap.lt_size e)) e
        refine assignInOrder_cons (wpAny_assign_Name (wpAny_storeName_local (lookup_relabel_local hx) ((hn'.at' fun o e => hk₂ _ o (by simpa using Ne.symm hIC) e).at' fun o e => he' _ o e) (fun h₆ hn₆ hs₆ => ?_) (by simp [compEnvC, relabel, hkind])))
        refine assignInOrder_cons (wpAny_assign_Name (wpAny_storeName_local (lookup_relabel_local hx₂) hn₆ (fun h₃ hn₃ hs₃ => ?_) (by simp [compEnvC, relabel, hkind])))
        refine assignInOrder_nil ?_
        have old3 : ∀ b o, b ≠ H2.objs.size → h₂.get? b = some o → h₃.get? b = some o := fun b o hb e => hs₃.extBut b o hb (hs₆.extBut b o hb (he' b o e))
        have hst₃ := W.frame (i + 1) _ _ hst₂ fun b hb o e => old3 b o (hfp b hb).1 e
        obtain ⟨oI, heI, _, _⟩ := id hst₃.1
        obtain ⟨oC, heC, hoC⟩ := ns_obj hn₃
        have F₃ : Fr h₀ L h₃ m := (((fr_but F' hk₂ hLI hI0).keeps he').change hs₆ hCL hC0).change hs₃ hCL hC0
        have N₃ : News h₀ L h₃ ((I, oI) :: (H2.objs.size, oC) :: (H1.objs.size, lst ys) :: news) := fun p hp => by
          rcases List.mem_cons.mp hp with rfl | hp
          · exact ⟨heI, Ne.symm hLI, hI0⟩
          rcases List.mem_cons.mp hp with rfl | hp
          · exact ⟨heC, hCL, hC0⟩
          refine ⟨old3 _ _ ?_ (N₂ p hp).1, (N₂ p hp).2⟩
          rcases List.mem_cons.mp hp with rfl | hp
          · exact hDC
          · exact (off3 p hp).2.1
        refine wpAny_mono (go I oI H2.objs.size oC H1.objs.size _ h₃ _ _ hoC (by simp [hxx]) (by simp) F₃ N₃ offn ⟨hIC, hID, Ne.symm hDC⟩) (fun ok s₄ h₄ => ?_) fun _ _ e => e
        cases ok with
        | false =>
          simp only [Bool.false_eq_true, if_false] at h₄ ⊢
          obtain ⟨h₅, tk₅, _, rfl, F₅, N₅, _, rfl, hJ₅⟩ := h₄
          have zI := (N₅ (I, oI) List.mem_cons_self).1
          have zC := (N₅ (H2.objs.size, oC) (List.mem_cons_of_mem _ List.mem_cons_self)).1
          have zA := (N₅ _ (List.mem_cons_of_mem _ (List.mem_cons_of_mem _ (List.mem_cons_of_mem _ hm)))).1
          refine ⟨its.size + 1 - (i + 1), by omega, h₅, tk₅, i + 1, ys, _, rfl, hlt', rfl, Nat.le_succ_of_le hyl, ⟨?_, ⟨_, zA, rfl, k, rfl⟩⟩, F₅, hoC.ns zC, fun p hp => N₅ p (List.mem_cons_of_mem _ (List.mem_cons_of_mem _ hp)), hJ₅⟩
          obtain ⟨o, e, r⟩ := hst₃.1
          rw [heI] at e
          cases e
          exact ⟨_, zI, r⟩
        | true =>
          simp only [if_true] at h₄ ⊢
          refine wpAny_mono h₄ (fun y s₅ h₅ => ?_) fun _ _ e => e
          obtain ⟨h₅, tk₅, _, rfl, F₅, N₅, _, rfl, hJ₅⟩ := h₅
          have zI := (N₅ (I, oI) List.mem_cons_self).1
          have zC := (N₅ (H2.objs.size, oC) (List.mem_cons_of_mem _ List.mem_cons_self)).1
          have zD := (N₅ (H1.objs.size, lst ys) (List.mem_cons_of_mem _ (List.mem_cons_of_mem _ List.mem_cons_self))).1
          have zA := (N₅ _ (List.mem_cons_of_mem _ (List.mem_cons_of_mem _ (List.mem_cons_of_mem _ hm)))).1
          have hst₅ : h₅.IsListIter I ax (i + 1) ∧ h₅.IsList ax its := by
            refine ⟨?_, ⟨_, zA, rfl, k, rfl⟩⟩
            obtain ⟨o, e, r⟩ := hst₃.1
            rw [heI] at e
            cases e
            exact ⟨_, zI, r⟩
          refine append_at (hsz := by show ys.toArray.size ≤ sizeLine; rw [List.size_toArray]; exact Nat.le_trans (Nat.le_trans hyl hi) hsz) zD fun h₆ hs₆ hD₆ => ?_
          refine ⟨its.size + 1 - (i + 1), by omega, h₆, tk₅, i + 1, ys ++ [y], _, rfl, hlt', rfl, by rw [List.length_append, List.length_singleton]; exact Nat.succ_le_succ hyl, W.frame (i + 1) _ _ hst₅ fun b hb o e => hs₆.extBut b o (hfp b hb).2 e, F₅.change hs₆ hDL hD0,
            (hoC.ns zC).sameBut hs₆ (Ne.symm hDC), fun p hp => ?_, hJ₅⟩
          rcases List.mem_cons.mp hp with rfl | hp
          · exact ⟨hD₆.trans (congrArg some (lst_snoc ys y)), hDL, hD0⟩
          · exact ⟨hs₆.extBut _ _ (off3 p hp).2.2 (N₅ p (List.mem_cons_of_mem _ (List.mem_cons_of_mem _ (List.mem_cons_of_mem _ hp)))).1, (N₅ p (List.mem_cons_of_mem _ (List.mem_cons_of_mem _ (List.mem_cons_of_mem _ hp)))).2⟩
      · obtain rfl : i = its.size := Nat.le_antisymm hi (Nat.not_lt.mp hlt')
        refine W.done _ _ _ hst' fun h₂ tk₂ hk₂ => ?_
        have F₂ := fr_but F' hk₂ hLI hI0
        have N₂ : News h₀ L h₂ ((H1.objs.size, lst ys) :: news) := news_but N' hk₂ fun p hp => by
          rcases List.mem_cons.mp hp with rfl | hp
          · exact Ne.symm hID
          · exact offI p hp
        have hn₂ := hn'.at' fun o e => hk₂ _ o (by simpa using Ne.symm hIC) e
        exact hR ys m' h₂ tk₂ hJ' F₂ N₂ hn₂
    · rcases List.mem_cons.mp hp with rfl | hp
      · exact ⟨hacc, hDL, hD0⟩
      · exact ⟨old _ _ (N1 p hp).1, (N1 p hp).2⟩
  refine codeAny_compStart_list (loop _ ?_ _ rfl) (W.self 0 _ _ _ hst1 (loop _ ?_ _ rfl))
  all_goals
    intro ys m' h₂ tk₂ hJ' F₂ N₂ hn₂
    refine ⟨m', hn₂, fun h'' hs'' => fin ys H1.objs.size h'' tk₂ hJ' (F₂.change hs'' hCL hC0) (fun p hp => ?_) offn.one⟩
    refine ⟨hs''.extBut _ _ ?_ (N₂ p hp).1, (N₂ p hp).2⟩
    rcases List.mem_cons.mp hp with rfl | hp
    · exact hDC
    · exact (off3 p hp).2.1
end
end
section
open PySem PySem.W PyProof.Rows PySem.Calls PySem.NumText
/-! the decimal text of an int -/
def decZ (z : Int) : List Nat := (Str.ofString (toString z)).cps.toList
theorem tx_decZ (z : Int) : Str.ofString (toString z) = tx (decZ z) := (tx_of _).symm
theorem neg_text (m : Nat) : toString (Int.negSucc m) = "-" ++ toString (m + 1) := rfl
theorem decZ_nat (m : Nat) : decZ (m : Int) = (Nat.toDigits 10 m).map Char.toNat := KIN.signs_num m
theorem decZ_neg (m : Nat) : decZ (Int.negSucc m) = 45 :: (Nat.toDigits 10 (m + 1)).map Char.toNat := by
  unfold decZ
  rw [signs_ofString, neg_text, String.toList_append, List.map_append]
  show _ ++ (Nat.repr (m + 1)).toList.map Char.toNat = _
  rw [Nat.toList_repr]
  rfl
theorem digits_all (m : Nat) : AllDigits ((Nat.toDigits 10 m).map Char.toNat) := by
  intro c hc
  obtain ⟨ch, hch, e⟩ := List.mem_map.mp hc
  have r := digit_range (Nat.isDigit_of_mem_toDigits (by decide) (by decide) hch)
  rw [← e]
  exact r
theorem digits_ne (m : Nat) : (Nat.toDigits 10 m).map Char.toNat ≠ [] := by
  intro e
  have h := toDigits_len_ge 10 m
  rw [List.map_eq_nil_iff.mp e] at h
  exact absurd h (by decide)
theorem decZ_signs (z : Int) : ∀ c ∈ decZ z, c = 45 ∨ (48 ≤ c ∧ c ≤ 57) := by
  intro c hc
  cases z with
  | ofNat m => exact .inr (digits_all m c (by rw [← decZ_nat]; exact hc))
  | negSucc m =>
    rw [decZ_neg] at hc
    rcases List.mem_cons.mp hc with rfl | hc
    · exact .inl rfl
    · exact .inr (digits_all _ c hc)
theorem decZ_len {z : Int} (h1 : -(10 : Int) ^ 9 < z) (h2 : z < 10 ^ 9) : (decZ z).length ≤ 11 := by
  cases z with
  | ofNat m =>
    have := KT.len_num (n := Int.ofNat m) (by simp) (by omega)
    have e2 : (decZ (Int.ofNat m)).length = (Str.ofString (toString (Int.ofNat m))).length := by unfold decZ; simp only [Array.length_toList, Str.length]
    rw [e2]
    omega
  | negSucc m =>
    have := KT.len_num (n := ((m + 1 : Nat) : Int)) (by omega) (by omega)
    have e := decZ_nat (m + 1)
    rw [decZ_neg, ← e, List.length_cons]
    have e2 : (decZ ((m + 1 : Nat) : Int)).length = (Str.ofString (toString ((m + 1 : Nat) : Int))).length := by unfold decZ; simp [Str.length]
    rw [e2]
    omega
theorem decZ_ok {z : Int} (h1 : -(10 : Int) ^ 9 < z) (h2 : z < 10 ^ 9) : OkT (decZ z) :=
  ⟨Nat.le_trans (decZ_len h1 h2) (by decide), fun c hc => by rcases decZ_signs z c hc with h | h <;> omega⟩
theorem decZ_reads {z : Int} (h1 : -(10 : Int) ^ 9 < z) (h2 : z < 10 ^ 9) : PySem.intText? (tx (decZ z)) = some z := by
  have hl := decZ_len h1 h2
  cases z with
  | ofNat m =>
    rw [← tx_decZ]
    exact KIN.num_reads (by simp) (by omega)
  | negSucc m =>
    have e : (tx (decZ (Int.negSucc m))).cps.toList = 45 :: (Nat.toDigits 10 (m + 1)).map Char.toNat := by rw [tx_cps, decZ_neg]
    rw [intText_neg e (digits_all _) (digits_ne _) (by rw [tx_len]; omega), KIN.val_back]
    rfl
end
section
open PySem PySem.W PyProof.Rows PySem.Calls
/-! the sixteen choices as the law reckons them -/
def sumS (xs : List Int) (ch : Nat) : Nat → Int
  | 0 => 0
  | p + 1 => sumS xs ch p + if ch / 2 ^ p % 2 = 1 then xs.getD p 0 else 0
theorem sumS_on {xs : List Int} {ch p : Nat} (h : ch / 2 ^ p % 2 = 1) : sumS xs ch (p + 1) = sumS xs ch p + xs.getD p 0 := by rw [sumS, if_pos h]
theorem sumS_off {xs : List Int} {ch p : Nat} (h : ¬ ch / 2 ^ p % 2 = 1) : sumS xs ch (p + 1) = sumS xs ch p := by rw [sumS, if_neg h]; omega
theorem sel_of (n p : Nat) : ((n : Int).fdiv (2 ^ (0 + (p : Int) * 1).toNat)).fmod 2 = ((n / 2 ^ p % 2 : Nat) : Int) := by
  have e0 : (0 + (p : Int) * 1).toNat = p := by omega
  rw [e0, Int.fmod_eq_emod_of_nonneg _ (by decide), Int.fdiv_eq_ediv_of_nonneg _ (Int.le_of_lt (Int.pow_pos (by decide)))]
  norm_cast
theorem getD_mem {l : List Int} {i : Nat} (h : i < l.length) : l.getD i 0 ∈ l := by
  have e : l.getD i 0 = l[i] := by simp [h]
  rw [e]
  exact List.getElem_mem h
def chD (c : Ch) : Dat := Dat.tuple [Dat.int c.1, Dat.int c.2]
def chI (ms ns : List Int) (ch : Nat) : Dat := Dat.tuple [Dat.int (sumS ms ch 4), Dat.int (sumS ns ch 4)]
theorem chI_chs (m0 m1 m2 m3 : Nat) (a b c d : Int) : (List.range 16).map (chI [(m0 : Int), m1, m2, m3] [a, b, c, d]) = (chs m0 m1 m2 m3 a b c d).map chD := by
  simp [List.range_succ, chI, chs, chD, sumS]
/-! the texts asked and told -/
def sgnL (l i : Nat) : Nat := if i % 2 = 1 then up l else l
def told2 (n s : Nat) : List Nat := rep (n / 2) ++ (if n % 2 = 0 then [s, 34, s] else [])
theorem told_two {s : Nat} (hs : s ≠ 34) {t : List Nat} (ht : Tail t) (n : Nat) : p257 ([50, 53, 55, 32, 34] ++ (rep n ++ (s :: 34 :: 34 :: s :: t))) = told2 n s := by
  rw [p257_of]
  unfold told2
  by_cases h : n % 2 = 0
  · have e : n = 2 * (n / 2) := by omega
    rw [if_pos h]
    conv => lhs; rw [e]
    rw [scan_even, scan_sign hs]
    show scan (34 :: 34 :: s :: t) _ = _
    have e2 : ∀ d : List Nat, scan (34 :: 34 :: s :: t) d = scan (s :: t) (d ++ [34]) := fun d => by simp [scan]
    rw [e2, scan_sign hs, scan_tail ht]; simp
  · have e : n = 2 * (n / 2) + 1 := by omega
    rw [if_neg h]
    conv => lhs; rw [e]
    rw [scan_odd (s := s :: 34 :: 34 :: s :: t) hs]; simp
theorem sign_text (l : Nat) : tx [l] ++ Str.ofString "\"\"" ++ tx [l] = tx [l, 34, 34, l] := by
  rw [show Str.ofString "\"\"" = tx [34, 34] from rfl, tx_app, tx_app]; rfl
theorem sign_up {l : Nat} (hl : 97 ≤ l ∧ l ≤ 122) : Txt.upper (tx [l, 34, 34, l]) = tx [up l, 34, 34, up l] := by
  rw [upper_tx (by intro c hc; simp at hc; omega)]; rfl
theorem asked_two (n s : Nat) (t : List Nat) : Str.ofString "257 \"" ++ Txt.mul (Str.ofString "\"") (n : Int) ++ tx [s, 34, 34, s] ++ tx t = tx ([50, 53, 55, 32, 34] ++ (rep n ++ (s :: 34 :: 34 :: s :: t))) := by
  rw [mul_mark, show Str.ofString "257 \"" = tx [50, 53, 55, 32, 34] from by decide, tx_app, tx_app, tx_app]
  simp
theorem up_range {l : Nat} (hl : 97 ≤ l ∧ l ≤ 122) : up l = l - 32 := by unfold up; rw [if_pos hl]
theorem sgnL_range {l : Nat} (hl : 97 ≤ l ∧ l ≤ 122) (i : Nat) : 65 ≤ sgnL l i ∧ sgnL l i ≤ 122 := by
  unfold sgnL
  split
  · rw [up_range hl]; omega
  · omega
theorem told2_len (n s : Nat) : (told2 n s).length ≤ n + 3 := by
  unfold told2
  rw [List.length_append, rep_len]
  split <;> simp <;> omega
theorem told2_ok {n s : Nat} (hn : n ≤ 100) (hs : 65 ≤ s ∧ s ≤ 122) : OkT (told2 n s) := by
  refine ⟨Nat.le_trans (told2_len n s) (by omega), fun c hc => ?_⟩
  unfold told2 rep at hc
  rcases List.mem_append.mp hc with hc | hc
  · rw [List.eq_of_mem_replicate hc]; omega
  · split at hc
    · simp at hc
      omega
    · exact nomatch hc
def tabOne (l : Nat) (cs : List Ch) (i : Nat) : PT := (told2 (cs.getD i (0, 0)).1 (sgnL l i), decZ (cs.getD i (0, 0)).2)
def tabPs (l : Nat) (cs : List Ch) (i : Nat) : List PT := (List.range i).map (tabOne l cs)
theorem tabPs_succ (l : Nat) (cs : List Ch) (i : Nat) : tabPs l cs (i + 1) = tabPs l cs i ++ [tabOne l cs i] := by
  unfold tabPs; rw [List.range_succ, List.map_append]; rfl
theorem tabPs_len (l : Nat) (cs : List Ch) (i : Nat) : (tabPs l cs i).length = i := by unfold tabPs; simp
def ChsOk (cs : List Ch) : Prop := ∀ c ∈ cs, c.1 ≤ 16 ∧ -4000000 ≤ c.2 ∧ c.2 ≤ 4000000
theorem ch_mem {cs : List Ch} {i : Nat} (h : i < cs.length) : cs.getD i (0, 0) ∈ cs := by
  have e : cs.getD i (0, 0) = cs[i] := by simp [h]
  rw [e]
  exact List.getElem_mem h
theorem tabOne_ok {l : Nat} {cs : List Ch} {i : Nat} (hl : 97 ≤ l ∧ l ≤ 122) (hi : i < cs.length) (h : ChsOk cs) : OkT (tabOne l cs i).1 ∧ OkT (tabOne l cs i).2 := by
  have := h _ (ch_mem hi)
  exact ⟨told2_ok (by omega) (sgnL_range hl i), decZ_ok (by omega) (by omega)⟩
section
variable {prog : Program} {w : World} {A : Around} {E : Value → Shared → Prop} {s : Shared} {h₀ : Heap} {L : Addr} {news : List (Addr × Obj)} {Q : Value → Shared → Prop}
/-- a choice taken out of the list of choices -/
theorem item_ch {value slice : Expr} {l : Addr} {vs : List Value} {nn : Nat} {base : List (Addr × Obj)} {cs : List Ch} {z : Int} {u : Tok} (N : News h₀ L s.heap news) (hm : (l, listOf vs.toArray nn) ∈ news) (hd : DatAll base vs (cs.map chD)) (hb : ∀ p ∈ base, p ∈ news) (h0 : 0 ≤ z) (hz : z < cs.length) (hn : cs.length ≤ 1000)
    (h : ∀ T t1 t2 n, (T, ({ cls := .type "tuple", data := .seq [Value.int (cs.getD z.toNat (0, 0)).1 t1, Value.int (cs.getD z.toNat (0, 0)).2 t2].toArray n } : Obj)) ∈ news → IsTup s.heap T #[Value.int (cs.getD z.toNat (0, 0)).1 t1, Value.int (cs.getD z.toNat (0, 0)).2 t2] → Q (.ref T) s)
    (hs : subscripted slice false (.ref l) (.int z u) = operate [.ref l, .int z u] (getItem (.ref l) (.int z u)) := by with_unfolding_all rfl) (hg : ∀ r, letTemporaryGo value (.ref l) r = pure () := by intro _; with_unfolding_all rfl) :
    wpAny (model prog w) A (subscriptTail value slice (.ref l) (.int z u)) Q E s := by
  obtain ⟨k, rfl⟩ := Int.eq_ofNat_of_zero_le h0
  have hk : k < cs.length := by omega
  obtain ⟨v, hv, hdv⟩ := hd.get (k := k) (by simpa using hk)
  rw [List.getElem_map] at hdv
  have e : cs.getD (k : Int).toNat (0, 0) = cs[k] := by simp [hk]
  rw [e] at h
  unfold chD at hdv
  cases hdv with
  | tuple hm2 hi2 =>
    cases hi2 with
    | cons h1 h2 => cases h1 with
      | int x t1 => cases h2 with
        | cons h3 h4 => cases h3 with
          | int y t2 =>
            cases h4
            exact kim_list (l := vs) N hm rfl rfl (by omega) (by omega) (by simpa using hv) (h _ t1 t2 _ (hb _ hm2) ⟨_, (N _ (hb _ hm2)).1, rfl, _, rfl⟩) hs hg
end
end
section
open PySem PySem.W PyProof.Rows PySem.Calls
section
variable {prog : Program} {w : World} {A : Around} {E : Value → Shared → Prop} {s : Shared} {h₀ : Heap} {env : Env} {x : Str} {px : Pos} {body : List Stmt} {Q : Flow → Shared → Prop}
/-- a range's loop whose target may be any name: the assignment is the turn's -/
theorem iter_RJ {r : Addr} {a b : Int} {t₀ u₀ v₀ : Tok} {n : Nat} {m₀ : Str → Option Value} {news : List (Addr × Obj)} (J : Nat → (Str → Option Value) → List (Addr × Obj) → Prop)
    (hh : A.handled = none) (hr : IsRange s.heap r a b 1 t₀ u₀ v₀) (hsmall : Builtin.Range.small a b 1 = true) (hsz : Builtin.Range.rangeSize a b 1 = (n : Int)) (F : Fr h₀ env.locals s.heap m₀) (N : News h₀ env.locals s.heap news) (hj : J 0 m₀ news)
    (turn : ∀ (i : Nat) t m₁ news₁ h tk (I : Addr) (oI : Obj), i < n → J i m₁ news₁ → (∀ p ∈ news₁, p.1 ≠ I) → Fr h₀ env.locals h m₁ → News h₀ env.locals h ((I, oI) :: news₁) →
      wpAny (model prog w) A (assign (.Name x px) env (.int (a + (i : Int)) t)) (fun _ s₂ => wpAny (model prog w) A (execs body env) (PostJ h₀ env.locals { s with heap := h, toks := tk } (I, oI) (J (i + 1)) Q) E s₂) E { s with heap := h, toks := tk })
    (done : ∀ m₁ news₁ h tk, J n m₁ news₁ → Fr h₀ env.locals h m₁ → News h₀ env.locals h news₁ → Q .next { s with heap := h, toks := tk }) :
    wpAny (model prog w) A (pyIter (.ref r)) (fun it s₂ => TurnsAt prog w A h₀ env (.Name x px) body Q E it s₂) E s := by
  refine wpAny_pyIter_range hr hsmall ?_
  have W := (Walks.range (prog := prog) (w := w) hh s.heap.objs.size a 1 n).bound
  have KT := KTurns.ofWalks (target := .Name x px) W fun i v s Q E st q => wpAny_of_eq (show letOwnedTupleGo (.Name x px) (.ref _) v = pure () from rfl) q
  let item : Nat → Itm := fun i => .tok fun t => .int (a + (i : Int)) t
  have all : ∀ (k i : Nat) (m₁ : Str → Option Value) (news₁ : List (Addr × Obj)), i + k = n → J i m₁ news₁ → (∀ p ∈ news₁, p.1 ≠ s.heap.objs.size) →
      ItemsRest prog w A E h₀ env (.Name x px) body Q s [(s.heap.objs.size, "range_iterator")] [] ((List.range' i k).map item) m₁ news₁ := by
    intro k
    induction k with
    | zero =>
      intro i m₁ news₁ hi hJ _
      obtain rfl : i = n := by omega
      exact fun h tk F' N' => done m₁ news₁ h tk hJ F' N'
    | succ k ih =>
      intro i m₁ news₁ hi hJ hoff
      rw [List.range'_succ, List.map_cons]
      intro v h tk hv F'
      obtain ⟨t, rfl⟩ := hv
      intro oI _ N'
      refine wpAny_mono (turn i t m₁ news₁ h tk _ oI (by omega) hJ hoff F' N') (fun _ s₂ h₂ => ?_) fun _ _ e => e
      refine wpAny_mono h₂ (fun f s₃ h₃ => ?_) fun _ _ e => e
      have fin : EndJ h₀ env.locals { s with heap := h, toks := tk } (s.heap.objs.size, oI) (J (i + 1)) s₃ →
          UnrEndW h₀ env.locals { s with heap := h, toks := tk } [(s.heap.objs.size, oI)] (fun m' n' => SubL [] n' ∧ ItemsRest prog w A E h₀ env (.Name x px) body Q s [(s.heap.objs.size, "range_iterator")] [] ((List.range' (i + 1) k).map item) m' n') s₃ := by
        rintro ⟨h', tk', m', news', e, F₂, N₂, off, hJ'⟩
        exact ⟨h', tk', m', news', e, F₂, N₂, fun p hp q hq => by rw [List.mem_singleton.mp hq]; exact off p hp, trivial, ih (i + 1) m' news' (by omega) hJ' off⟩
      cases f with
      | ret v => exact h₃
      | brk => exact h₃
      | next => exact fin h₃
      | cont => exact fin h₃
  have hI0 : h₀.get? s.heap.objs.size = none := next_is_new F
  refine ktu_core (ws := [(s.heap.objs.size, "range_iterator")]) (xs := (List.range' 0 n).map item) (tk0 := s.toks) (keep := []) KT (by simp) (fun i v h hp => ?_) (fun i h st => ⟨[(s.heap.objs.size, _)], ⟨⟨rfl, rfl⟩, trivial⟩, fun p hp => by rw [List.mem_singleton.mp hp]; exact st⟩) (fun b hb => ?_) (fun b hb => by simpa using hb) (fun b hb => .inl (by simpa using hb)) ?_ (fun p hp hI => ?_) ?_ (F.push _) (fun p hp => ⟨Heap.get?_push_of_some _ (N p hp).1, (N p hp).2⟩) trivial (all n 0 m₀ news (by omega) hj fun p hp => Nat.ne_of_lt (Heap.lt_size (N p hp).1))
  · obtain ⟨hin, t, rfl⟩ := hp
    have e1 : a + (i : Int) * 1 = a + (i : Int) := by omega
    rw [e1]
    exact ⟨item i, by rw [List.getElem?_map, List.getElem?_range' hin]; simp, t, rfl⟩
  · have hb' : b = s.heap.objs.size := by simpa using hb
    rw [hb']
    exact ⟨List.mem_cons_self .., hI0⟩
  · intro hI
    exact absurd F.ns.lt ((List.mem_singleton.mp hI) ▸ Nat.lt_irrefl _)
  · exact absurd (Heap.lt_size (N p hp).1) ((List.mem_singleton.mp hI) ▸ Nat.lt_irrefl _)
  · show IsRangeIter _ _ _ _ _
    rw [hsz]; simpa using Heap.get?_push_size _ rfl
end
end
section
open PySem PySem.W PyProof.Rows PySem.Calls
def allF (ps : List PT) (k : List Nat) : List (List Nat) := (ps.filter fun p => decide (p.1.map lo = k.map lo)).map (·.2)
section
variable {prog : Program} {w : World} {A : Around} {E : Value → Shared → Prop} {s : Shared} {h₀ : Heap}
theorem dat_ne_same {L : Addr} {news n1 n2 : List (Addr × Obj)} {a b : Value} {d : Dat} {Q : Value → Shared → Prop} (N : News h₀ L s.heap news) (Dx : DatIn n1 a d) (sx : ∀ p ∈ n1, p ∈ news) (Dy : DatIn n2 b d) (sy : ∀ p ∈ n2, p ∈ news) (hk : kqdOk 9 d = true) (hu : A.units + 64 < cLine) (h : Q (.bool false) s) :
    wpAny (model prog w) A (compareOp .NotEq a b) Q E s := by
  obtain ⟨as, ra⟩ := kqd_in N 9 (Dx.mono sx) hk
  obtain ⟨bs, rb⟩ := kqd_in N 9 (Dy.mono sy) hk
  have l := kqd_lay 9 d hk
  have e : PyData.eqv (kqdP d) (kqdP d) = true := (kqd_eqv 9 d d 9 hk hk).mpr rfl
  refine ne_dataH ra rb ?_ ?_ hu (by rw [e]; exact h)
  · unfold SeqAt.shaped; rw [l.1, Bool.true_and]; exact decide_eq_true (Nat.le_trans l.2 (by decide))
  · unfold SeqAt.shaped; rw [l.1, Bool.true_and]; exact decide_eq_true (Nat.le_trans l.2 (by decide))
end
def strD (x : List Nat) : Dat := Dat.str (tx x)
theorem strOk_tx {x : List Nat} (h : OkT x) : PyData.strOk (tx x) = true := by
  unfold PyData.strOk
  rw [← Array.all_toList, tx_cps, List.all_eq_true]
  intro c hc
  have := h.cs c hc
  exact decide_eq_true (by omega)
theorem strs_ok {xs : List (List Nat)} (h : ∀ x ∈ xs, OkT x) : kqdOk 9 (Dat.list (xs.map strD)) = true := by
  show (xs.map strD).all (kqdOk 8) = true
  rw [List.all_eq_true]
  intro d hd
  obtain ⟨x, hx, rfl⟩ := List.mem_map.mp hd
  exact strOk_tx (h x hx)
/-! the rows' texts -/
theorem up_lo {l : Nat} (hl : 97 ≤ l ∧ l ≤ 122) : lo (up l) = l ∧ lo l = l := by
  rw [up_range hl]; unfold lo
  constructor
  · rw [if_pos (by omega)]; omega
  · rw [if_neg (by omega)]
theorem rep_lo (n : Nat) : (rep n).map lo = rep n := by unfold rep; rw [List.map_replicate]; rfl
theorem told2_lo {l : Nat} (hl : 97 ≤ l ∧ l ≤ 122) (n i : Nat) : (told2 n (sgnL l i)).map lo = told2 n l := by
  have hs : lo (sgnL l i) = l := by unfold sgnL; split; exact (up_lo hl).1; exact (up_lo hl).2
  unfold told2
  rw [List.map_append, rep_lo]
  split
  · simp [hs]; rfl
  · rfl
theorem rep_inj {a b : Nat} {x y : List Nat} (hx : NoMark x) (hy : NoMark y) (h : rep a ++ x = rep b ++ y) : a = b ∧ x = y := by
  induction a generalizing b with
  | zero =>
    cases b with
    | zero => exact ⟨rfl, h⟩
    | succ b =>
      exfalso
      have e : x = 34 :: (rep b ++ y) := h
      subst e
      exact hx rfl
  | succ a ih =>
    cases b with
    | zero =>
      exfalso
      have e : 34 :: (rep a ++ x) = y := h
      subst e
      exact hy rfl
    | succ b =>
      have e : 34 :: (rep a ++ x) = 34 :: (rep b ++ y) := h
      obtain ⟨h1, h2⟩ := ih (List.cons.inj e).2
      exact ⟨by rw [h1], h2⟩
/-- what the rows ask under: great letters for rest 0, nothing for rest 1 -/
def endT (l rest : Nat) : List Nat := if rest = 0 then [up l, 34, up l] else []
theorem endT_lo {l : Nat} (hl : 97 ≤ l ∧ l ≤ 122) (rest : Nat) : (endT l rest).map lo = if rest = 0 then [l, 34, l] else [] := by
  unfold endT
  split
  · simp [up_lo hl]; rfl
  · rfl
theorem asks_iff {l n half rest : Nat} (hl : 97 ≤ l ∧ l ≤ 122) (hr : rest < 2) (i : Nat) : ((told2 n (sgnL l i)).map lo = (rep half ++ endT l rest).map lo) ↔ n = 2 * half + rest := by
  rw [told2_lo hl, List.map_append, rep_lo, endT_lo hl]
  unfold told2
  have n1 : ∀ p : Prop, [Decidable p] → NoMark (if p then [l, 34, l] else []) := by
    intro p _
    split
    · show l ≠ 34; omega
    · trivial
  constructor
  · intro h
    obtain ⟨h1, h2⟩ := rep_inj (n1 _) (n1 _) h
    by_cases a : n % 2 = 0 <;> by_cases b : rest = 0 <;> simp [a, b] at h2 <;> omega
  · intro h
    have e1 : n / 2 = half := by omega
    have e2 : (n % 2 = 0) = (rest = 0) := by apply propext; omega
    simp only [e1, e2]
def selR (cs : List Ch) (rest half : Nat) : List Int := (cs.filter fun c => decide (c.1 = 2 * half + rest)).map (·.2)
def rowPre (cs : List Ch) (rest : Nat) : Nat → List Int
  | 0 => []
  | i + 1 => rowPre cs rest i ++ selR cs rest i
theorem cs_range {cs : List Ch} (h : cs.length = 16) : cs = (List.range 16).map fun i => cs.getD i (0, 0) := by
  apply List.ext_getElem
  · simp [h]
  · intro i h1 h2
    simp [h1]
theorem allF_sel {l half rest : Nat} {cs : List Ch} (h16 : cs.length = 16) (hl : 97 ≤ l ∧ l ≤ 122) (hr : rest < 2) : allF (tabPs l cs 16) (rep half ++ endT l rest) = (selR cs rest half).map decZ := by
  have h2 : selR cs rest half = (((List.range 16).map fun i => cs.getD i (0, 0)).filter fun c => decide (c.1 = 2 * half + rest)).map (·.2) := by rw [← cs_range h16]; rfl
  rw [h2]
  unfold allF tabPs
  rw [List.filter_map, List.filter_map, List.map_map, List.map_map, List.map_map]
  have e : ((fun p : PT => decide (p.1.map lo = (rep half ++ endT l rest).map lo)) ∘ tabOne l cs) = ((fun c : Ch => decide (c.1 = 2 * half + rest)) ∘ fun i => cs.getD i (0, 0)) := by
    funext i
    show decide ((told2 (cs.getD i (0, 0)).1 (sgnL l i)).map lo = _) = decide ((cs.getD i (0, 0)).1 = _)
    exact decide_eq_decide.mpr (asks_iff hl hr i)
  rw [e]
  rfl
end
section
open PySem PySem.W PyProof.Rows PySem.Calls
section
variable {prog : Program} {w : World} {A₀ A : Around} {s : Shared} {base h₀ : Heap} {L : Addr} {m : Str → Option Value} {env : Env} {news : List (Addr × Obj)} {K : Frag} {p : Program} {loose : List Str} {mean : ExcName → Option Value} {mg mb : Str → Option Value}
    {R : Result → Shared → Prop} {name qual : Str} {params : Arguments} {body : List Stmt} {scope : Scope} {dV kV doc pm cdv ct oc : Value} {an od : Option Addr} {osl : Array (Option Value)} {f : Addr} {args : Args} {binds : List (Str × Value)}
/-- a def that catches, entered from a first frame of any kind (one with cells, too) -/
theorem code_defS0X (B : Below A₀ base [] h₀) (F : Fr h₀ L s.heap m) (X₀ : K.In h₀) (N : News h₀ L s.heap news) (T : Top p loose mean mg mb h₀) (hA : A.frames = some [env]) (hf : env.frame = some L) (hke : env.scope.kind = .function)
    (ho : K.lookup f = some ⟨oc, od, .func (fnOf name qual params body scope dV kV doc pm an cdv ct), osl⟩) (hcd : codeIn K cdv qual = true) (hroom : A.depth < recursionLimit)
    (hbind : BindsTo s (fnOf name qual params body scope dV kV doc pm an cdv ct) args binds) (hloc : ∀ y ∈ binds, scope.names.lookup y.1 = some .local)
    (h : ∀ g L' h₁, Fr h₀ L g m → Fr g L' h₁ (fun y => binds.reverse.lookup y) → News g L' h₁ news → Below A base [env] g → K.In g → Top p loose mean mg mb g → KtsDicts ([env].filterMap (·.frame)) g →
      wpAny (model prog w) (A.deeper (envOf qual scope L' f cdv)) (execs body (envOf qual scope L' f cdv))
        (fun fl s' => LeaveS0 ([env].filterMap (·.frame)) h₀ L m g R (match fl with | .ret v => v | _ => .none) s')
        (fun e s' => wpAny (model prog w) (A.deeper (envOf qual scope L' f cdv)) (leaving (envOf qual scope L' f cdv) e) (fun _ s'' => R (.error e) s'') (fun e' s'' => R (.error e') s'') s')
        { s with heap := h₁, toks := s.toks + binds.length })
    (hco : scope.isCoroutine = false) (hgen : scope.isGenerator = false) (hk : scope.kind = .function)
    (hcell : ∀ x ∈ scope.names, x.2 ≠ .cell) : codeAny (model prog w) A (.call (.ref f) args) R s := by
  obtain ⟨FG, BG, st, _⟩ := groundX (R := R) B F N hA hf hke
  refine codeAny_call_def (fd := fnOf name qual params body scope dV kV doc pm an cdv ct) (body := body) (binds := binds) hroom ((X₀.keeps F.keep) _ _ ho) rfl (T.nolimit.keeps F.keep) (codeRec_of (X₀.keeps F.keep) hcd) rfl hbind hcell hloc (fun h₁ hns hk₁ => ?_) hco hgen hk
  have hfs : [env].filterMap (·.frame) = [L] := by simp [hf]
  obtain ⟨oL, es, ep, hL, hLd, hLk, hLf⟩ := FG.ns
  refine wpAny_mono (h _ s.heap.objs.size h₁ FG ⟨hns, fun b o e => hk₁ b o (of_hideAll _ e), Nat.le_of_eq (hideAll_size _ _)⟩
    (fun q hq => ⟨hk₁ _ _ (N q hq).1, Nat.ne_of_lt (Heap.lt_size (N q hq).1), hideAll_none _ (List.mem_map_of_mem hq)⟩) BG (X₀.keeps st) (T.keeps st) (fun b hb => by
      rw [hfs] at hb
      rw [List.mem_singleton.mp hb]
      exact ⟨oL, es, ep, hL, hLd⟩)) (fun fl s' hl => ?_) fun _ _ y => y
  obtain ⟨g', L', m', news', T', F', N', k⟩ := hl
  have hL0 : h₀.get? L = none := kts_self F
  obtain ⟨sl, hsl⟩ := T'.up hL
  have hLs := F'.keep _ _ hsl
  refine k ⟨⟨_, es, ep, hLs, hLd, hLk, hLf⟩, fun b o e => F'.keep b o (T'.other b o (st b o e) fun hb => ?_), F.above⟩ fun q hq => ⟨(N' q hq).1, fun e => ?_, ?_⟩
  · rw [hfs] at hb
    rw [List.mem_singleton.mp hb, hL0] at e
    cases e
  · have z := (N' q hq).2.2
    rw [e, hsl] at z
    cases z
  · cases e : h₀.get? q.1 with
    | none => rfl
    | some o =>
      obtain ⟨sl', hsl'⟩ := T'.up (st _ _ e)
      have z := (N' q hq).2.2
      rw [hsl'] at z
      cases z
end
mutual
theorem datIn_seq {news news' : List (Addr × Obj)} (hs : ∀ p ∈ news, (∃ a n, p.2.data = .seq a n) → p ∈ news') : ∀ {v : Value} {d : Dat}, DatIn news v d → DatIn news' v d
  | _, _, .none => .none
  | _, _, .bool b => .bool b
  | _, _, .int i t => .int i t
  | _, _, .str x t => .str x t
  | _, _, .bytes b t => .bytes b t
  | _, _, .tuple h r => .tuple (hs _ h ⟨_, _, rfl⟩) (datAll_seq hs r)
  | _, _, .list h r => .list (hs _ h ⟨_, _, rfl⟩) (datAll_seq hs r)
theorem datAll_seq {news news' : List (Addr × Obj)} (hs : ∀ p ∈ news, (∃ a n, p.2.data = .seq a n) → p ∈ news') : ∀ {vs : List Value} {ds : List Dat}, DatAll news vs ds → DatAll news' vs ds
  | _, _, .nil => .nil
  | _, _, .cons h r => .cons (datIn_seq hs h) (datAll_seq hs r)
end
end
section
open PySem PySem.W PyProof.Rows
/-! the rows, the levels and the points together -/
def evs (cs : List Ch) : List Int := (cs.filter fun c => decide (c.1 % 2 = 0)).map (·.2)
def ods (cs : List Ch) : List Int := (cs.filter fun c => decide (c.1 % 2 = 1)).map (·.2)
theorem lev_cons (c : Ch) (r : List Ch) (x : Int) : lev (c :: r) x = (if c.2 ≤ x then sg c else 0) + lev r x := by
  unfold lev; rw [List.map_cons, List.sum_cons]
theorem le_n_cons (a : Int) (r : List Int) (x : Int) : (le_n (a :: r) x : Int) = (if a ≤ x then 1 else 0) + le_n r x := by
  unfold le_n
  by_cases h : a ≤ x
  · simp [h]; omega
  · simp [h]
theorem lev_rows : ∀ (cs : List Ch) (x : Int), (le_n (evs cs) x : Int) - le_n (ods cs) x = lev cs x
  | [], x => rfl
  | c :: r, x => by
    have ih := lev_rows r x
    rw [lev_cons]
    rcases Nat.mod_two_eq_zero_or_one c.1 with h | h
    · have e1 : evs (c :: r) = c.2 :: evs r := by unfold evs; simp [h]
      have e2 : ods (c :: r) = ods r := by unfold ods; simp [h]
      rw [e1, e2, le_n_cons]
      unfold sg
      simp only [h, if_true]
      omega
    · have e1 : evs (c :: r) = evs r := by unfold evs; simp [h]
      have e2 : ods (c :: r) = c.2 :: ods r := by unfold ods; simp [h]
      rw [e1, e2, le_n_cons]
      unfold sg
      simp only [h, Nat.one_ne_zero, if_false]
      split <;> omega
theorem rows_perm (cs : List Ch) : (evs cs ++ ods cs).Perm (cs.map (·.2)) := by
  unfold evs ods
  rw [← List.map_append]
  refine List.Perm.map _ ?_
  have h := List.filter_append_perm (fun c : Ch => decide (c.1 % 2 = 0)) cs
  have e : (fun c : Ch => !decide (c.1 % 2 = 0)) = fun c => decide (c.1 % 2 = 1) := by
    funext c
    rcases Nat.mod_two_eq_zero_or_one c.1 with h | h <;> simp [h]
  rw [e] at h
  exact h
/-- what the walk hands over -/
structure Rows (cs : List Ch) (E O P : List Int) : Prop where
  sdE : Sd E
  sdO : Sd O
  sdP : Sd P
  pE : E.Perm (evs cs)
  pO : O.Perm (ods cs)
  pP : P.Perm (E ++ O)
section
variable {cs : List Ch} {E O P : List Int}
theorem Rows.pAll (R : Rows cs E O P) : P.Perm (cs.map (·.2)) := R.pP.trans ((R.pE.append R.pO).trans (rows_perm cs))
theorem Rows.mem (R : Rows cs E O P) {x : Int} : x ∈ P ↔ ∃ c ∈ cs, c.2 = x := by rw [R.pAll.mem_iff, List.mem_map]
theorem Rows.level (R : Rows cs E O P) (x : Int) : (bisR E x 0 E.length : Int) - bisR O x 0 O.length = lev cs x := by
  rw [bisR_sd R.sdE, bisR_sd R.sdO, le_n_perm R.pE, le_n_perm R.pO, lev_rows]
theorem Rows.len (R : Rows cs E O P) : P.length = cs.length := by rw [R.pAll.length_eq, List.length_map]
theorem Rows.lenE (R : Rows cs E O P) : E.length ≤ cs.length := by rw [R.pE.length_eq]; unfold evs; rw [List.length_map]; exact List.length_filter_le _ _
theorem Rows.lenO (R : Rows cs E O P) : O.length ≤ cs.length := by rw [R.pO.length_eq]; unfold ods; rw [List.length_map]; exact List.length_filter_le _ _
theorem Rows.bound (R : Rows cs E O P) (x : Int) : -(cs.length : Int) ≤ lev cs x ∧ lev cs x ≤ cs.length := by
  rw [← R.level x, bisR_sd R.sdE, bisR_sd R.sdO]
  have h1 := le_n_le E x
  have h2 := le_n_le O x
  have h3 := R.lenE
  have h4 := R.lenO
  omega
theorem lastD_max : ∀ {P : List Int}, Sd P → ∀ x ∈ P, x ≤ lastD P
  | [], _, _, h => nomatch h
  | [a], _, x, h => by rw [List.mem_singleton.mp h]; exact Int.le_refl _
  | a :: b :: r, hs, x, h => by
    have e : lastD (a :: b :: r) = lastD (b :: r) := by simp [lastD]
    obtain ⟨h1, h2⟩ := List.pairwise_cons.mp hs
    rw [e]
    rcases List.mem_cons.mp h with rfl | h
    · exact Int.le_trans (h1 b List.mem_cons_self) (lastD_max h2 b List.mem_cons_self)
    · exact lastD_max h2 x h
theorem lev_all : ∀ {cs : List Ch} {x : Int}, (∀ c ∈ cs, c.2 ≤ x) → lev cs x = (cs.map sg).sum
  | [], _, _ => rfl
  | c :: r, x, h => by
    rw [lev_cons, if_pos (h c List.mem_cons_self), lev_all fun d hd => h d (List.mem_cons_of_mem _ hd), List.map_cons, List.sum_cons]
theorem lev_none : ∀ {cs : List Ch} {x : Int}, (∀ c ∈ cs, ¬ c.2 ≤ x) → lev cs x = 0
  | [], _, _ => rfl
  | c :: r, x, h => by
    rw [lev_cons, if_neg (h c List.mem_cons_self), lev_none fun d hd => h d (List.mem_cons_of_mem _ hd)]; rfl
theorem Rows.last (R : Rows cs E O P) : lev cs (lastD P) = (cs.map sg).sum :=
  lev_all fun c hc => lastD_max R.sdP _ (R.mem.mpr ⟨c, hc, rfl⟩)
theorem Rows.moved (R : Rows cs E O P) (g : Int → Int) : mv (lev cs) g P = g (lastD P) * (cs.map sg).sum - wt cs g :=
  mv_lev g R.sdP cs fun c hc => R.mem.mpr ⟨c, hc, rfl⟩
end
/-! the moves as the law sums them up -/
theorem mv_at (f g : Int → Int) : ∀ (P : List Int) (k : Nat), P.length = k + 1 → mv f g P = ((List.range k).map fun i => f (P.getD i 0) * (g (P.getD (i + 1) 0) - g (P.getD i 0))).sum
  | [], k, h => by simp at h
  | [a], k, h => by
    have : k = 0 := by simpa using h.symm
    subst this
    rfl
  | a :: b :: r, k, h => by
    obtain ⟨n, rfl⟩ : ∃ n, k = n + 1 := ⟨k - 1, by simp at h; omega⟩
    rw [mv, mv_at f g (b :: r) n (by simpa using h), List.range_succ_eq_map, List.map_cons, List.sum_cons, List.map_map]
    rfl
theorem mv_zero_at {f : Int → Int} (g : Int → Int) : ∀ {P : List Int}, (∀ x ∈ P, f x = 0) → mv f g P = 0
  | [], _ => rfl
  | [_], _ => rfl
  | a :: b :: r, h => by
    rw [mv, mv_zero_at g fun x hx => h x (List.mem_cons_of_mem _ hx), h a List.mem_cons_self]; simp
end
section
open PySem PySem.W PyProof.Rows
/-! no number with an odd number of marks -/
theorem sg_all {cs : List Ch} (h : ∀ c ∈ cs, sg c = 1) : (cs.map sg).sum = cs.length := by
  induction cs with
  | nil => rfl
  | cons c r ih =>
    rw [List.map_cons, List.sum_cons, ih fun d hd => h d (List.mem_cons_of_mem _ hd), h c List.mem_cons_self, List.length_cons]
    omega
theorem lev_ge {cs : List Ch} (h : ∀ c ∈ cs, sg c = 1) (x : Int) : 0 ≤ lev cs x := by
  induction cs with
  | nil => exact Int.le_refl _
  | cons c r ih =>
    have := ih fun d hd => h d (List.mem_cons_of_mem _ hd)
    have h1 := h c List.mem_cons_self
    rw [lev_cons, h1]
    split <;> omega
theorem lev_pos {cs : List Ch} (h : ∀ c ∈ cs, sg c = 1) {x : Int} (hx : ∃ c ∈ cs, c.2 ≤ x) : 0 < lev cs x := by
  induction cs with
  | nil => obtain ⟨_, hc, _⟩ := hx; exact nomatch hc
  | cons c r ih =>
    have hr : ∀ d ∈ r, sg d = 1 := fun d hd => h d (List.mem_cons_of_mem _ hd)
    have h1 := h c List.mem_cons_self
    have h2 := lev_ge hr x
    rw [lev_cons, h1]
    obtain ⟨d, hd, hdx⟩ := hx
    rcases List.mem_cons.mp hd with rfl | hd
    · rw [if_pos hdx]; omega
    · have := ih hr ⟨d, hd, hdx⟩
      split <;> omega
section
variable {m0 m1 m2 m3 : Nat} {a b c d : Int}
theorem odds4_nil (h : odds4 m0 m1 m2 m3 a b c d = []) : m0 % 2 = 0 ∧ m1 % 2 = 0 ∧ m2 % 2 = 0 ∧ m3 % 2 = 0 := by
  unfold odds4 at h
  refine ⟨?_, ?_, ?_, ?_⟩
  all_goals
    rcases Nat.mod_two_eq_zero_or_one m0 with h0 | h0 <;> rcases Nat.mod_two_eq_zero_or_one m1 with h1 | h1 <;> rcases Nat.mod_two_eq_zero_or_one m2 with h2 | h2 <;> rcases Nat.mod_two_eq_zero_or_one m3 with h3 | h3 <;> simp [h0, h1, h2, h3] at h ⊢
theorem ev_add {x y : Nat} (h : x % 2 = 0) (k : y % 2 = 0) : (x + y) % 2 = 0 := by omega
theorem sg_nil (h : odds4 m0 m1 m2 m3 a b c d = []) : ∀ e ∈ chs m0 m1 m2 m3 a b c d, sg e = 1 := by
  obtain ⟨h0, h1, h2, h3⟩ := odds4_nil h
  have hall : ∀ e ∈ chs m0 m1 m2 m3 a b c d, e.1 % 2 = 0 := by
    unfold chs
    exact List.forall_mem_cons.mpr ⟨rfl, List.forall_mem_cons.mpr ⟨h0, List.forall_mem_cons.mpr ⟨h1, List.forall_mem_cons.mpr ⟨ev_add h0 h1, List.forall_mem_cons.mpr ⟨h2, List.forall_mem_cons.mpr ⟨ev_add h0 h2, List.forall_mem_cons.mpr ⟨ev_add h1 h2, List.forall_mem_cons.mpr ⟨ev_add (ev_add h0 h1) h2, List.forall_mem_cons.mpr ⟨h3, List.forall_mem_cons.mpr ⟨ev_add h0 h3, List.forall_mem_cons.mpr ⟨ev_add h1 h3, List.forall_mem_cons.mpr ⟨ev_add (ev_add h0 h1) h3, List.forall_mem_cons.mpr ⟨ev_add h2 h3, List.forall_mem_cons.mpr ⟨ev_add (ev_add h0 h2) h3, List.forall_mem_cons.mpr ⟨ev_add (ev_add h1 h2) h3, List.forall_mem_cons.mpr ⟨ev_add (ev_add (ev_add h0 h1) h2) h3, fun _ h9 => nomatch h9⟩⟩⟩⟩⟩⟩⟩⟩⟩⟩⟩⟩⟩⟩⟩⟩
  intro e he
  unfold sg
  rw [if_pos (hall e he)]
theorem chs_len : (chs m0 m1 m2 m3 a b c d).length = 16 := rfl
variable {E O P : List Int}
theorem nil_pos (R : Rows (chs m0 m1 m2 m3 a b c d) E O P) (h : odds4 m0 m1 m2 m3 a b c d = []) : (∀ x ∈ P, 0 < lev (chs m0 m1 m2 m3 a b c d) x) ∧ lev (chs m0 m1 m2 m3 a b c d) (lastD P) = 16 := by
  refine ⟨fun x hx => ?_, ?_⟩
  · obtain ⟨e, he, hex⟩ := R.mem.mp hx
    exact lev_pos (sg_nil h) ⟨e, he, by omega⟩
  · rw [R.last, sg_all (sg_nil h)]; rfl
/-! the moves -/
theorem moved_less (R : Rows (chs m0 m1 m2 m3 a b c d) E O P) {p : Nat} (h1 : 1 ≤ p) (h2 : p < (odds4 m0 m1 m2 m3 a b c d).length) : mv (lev (chs m0 m1 m2 m3 a b c d)) (fun x => x ^ p) P = 0 := by
  have W := weighs m0 m1 m2 m3 a b c d
  rw [R.moved, W.zero (by intro e; rw [e] at h2; simp at h2), W.less p h1 h2]; simp
theorem moved_due (R : Rows (chs m0 m1 m2 m3 a b c d) E O P) (h : odds4 m0 m1 m2 m3 a b c d ≠ []) : mv (lev (chs m0 m1 m2 m3 a b c d)) (fun x => x ^ (odds4 m0 m1 m2 m3 a b c d).length) P = dueZ (odds4 m0 m1 m2 m3 a b c d) := by
  have W := weighs m0 m1 m2 m3 a b c d
  rw [R.moved, W.zero h, ← W.due h]; omega
theorem last_zero (R : Rows (chs m0 m1 m2 m3 a b c d) E O P) (h : odds4 m0 m1 m2 m3 a b c d ≠ []) : lev (chs m0 m1 m2 m3 a b c d) (lastD P) = 0 := by
  rw [R.last, (weighs m0 m1 m2 m3 a b c d).zero h]
/-! one of the odd numbers is nought -/
theorem due_fold (l : List Int) (h : ∀ x ∈ l, x ≠ 0) : ∀ (k : Nat) (s : Int), k ≤ l.length → s ≠ 0 → (List.range k).foldl (fun (s : Int) (k : Nat) => s * (-((k : Int) + 1) * l.getD k 0)) s ≠ 0
  | 0, s, _, hs => hs
  | k + 1, s, hk, hs => by
    rw [List.range_succ, List.foldl_append]
    have ih := due_fold l h k s (by omega) hs
    have hx : l.getD k 0 ≠ 0 := by
      have e : l.getD k 0 = l[k] := by simp [List.getD, List.getElem?_eq_getElem (show k < l.length by omega)]
      rw [e]
      exact h _ (List.getElem_mem _)
    exact Int.mul_ne_zero ih (Int.mul_ne_zero (by omega) hx)
theorem due_zero {l : List Int} (h : dueZ l = 0) : (0 : Int) ∈ l := by
  refine Classical.byContradiction fun hn => ?_
  refine due_fold l (fun x hx e => hn (e ▸ hx)) l.length (-(2 ^ (4 - l.length))) (Nat.le_refl _) ?_ h
  have : (2 : Int) ^ (4 - l.length) > 0 := Int.pow_pos (by decide)
  omega
theorem odds4_mem {x : Int} (h : x ∈ odds4 m0 m1 m2 m3 a b c d) : (m0 % 2 = 1 ∧ a = x) ∨ (m1 % 2 = 1 ∧ b = x) ∨ (m2 % 2 = 1 ∧ c = x) ∨ (m3 % 2 = 1 ∧ d = x) := by
  unfold odds4 at h
  rcases Nat.mod_two_eq_zero_or_one m0 with h0 | h0 <;> rcases Nat.mod_two_eq_zero_or_one m1 with h1 | h1 <;> rcases Nat.mod_two_eq_zero_or_one m2 with h2 | h2 <;> rcases Nat.mod_two_eq_zero_or_one m3 with h3 | h3 <;> simp [h0, h1, h2, h3] at h ⊢ <;> grind
theorem sn_odd {m : Nat} (h : m % 2 = 1) : sn m = -1 := by unfold sn; rw [if_neg (by omega)]
theorem wt_zero (h : (0 : Int) ∈ odds4 m0 m1 m2 m3 a b c d) (g : Int → Int) : wt (chs m0 m1 m2 m3 a b c d) g = 0 := by
  rw [wt_chs]
  rcases odds4_mem h with ⟨hh, rfl⟩ | ⟨hh, rfl⟩ | ⟨hh, rfl⟩ | ⟨hh, rfl⟩
  all_goals
    simp only [sn_odd hh, Int.add_zero, Int.zero_add]
    grind
theorem lev_zero (h : (0 : Int) ∈ odds4 m0 m1 m2 m3 a b c d) (x : Int) : lev (chs m0 m1 m2 m3 a b c d) x = 0 := by
  rw [lev_chs, wt_zero h]
theorem le_n_count {E O : List Int} (h : ∀ x, le_n E x = le_n O x) : E.Perm O := by
  rw [List.perm_iff_count]
  intro x
  have one : ∀ l : List Int, l.count x + le_n l (x - 1) = le_n l x := by
    intro l
    induction l with
    | nil => rfl
    | cons y r ih =>
      unfold le_n at ih ⊢
      rw [List.count_cons]
      by_cases h1 : y = x
      · subst h1
        have : ¬ y ≤ y - 1 := by omega
        simp [this]
        omega
      · by_cases h2 : y ≤ x - 1
        · have : y ≤ x := by omega
          simp [h1, h2, this]; omega
        · have : ¬ y ≤ x := by omega
          simp [h1, h2, this]; omega
  have h1 := one E
  have h2 := one O
  rw [h x, h (x - 1)] at h1
  omega
theorem rows_same (R : Rows (chs m0 m1 m2 m3 a b c d) E O P) (h : dueZ (odds4 m0 m1 m2 m3 a b c d) = 0) : E = O := by
  refine sd_perm_eq R.sdE R.sdO (le_n_count fun x => ?_)
  have := R.level x
  rw [lev_zero (due_zero h), bisR_sd R.sdE, bisR_sd R.sdO] at this
  omega
end
end
section
open PySem PySem.W PyProof.Rows
/-! the stretches' parity, by the levels' symmetry -/
def nz (v : Int) : Bool := decide (v ≠ 0)
theorem side_fold : ∀ (vs : List Int) (s : List Bool) (h l : Bool), SideInv s h l → SideInv (vs.foldl sideStep s) h (match (vs.filter nz).getLast? with | some b => decide (b > 0) | none => l)
  | [], _, _, _, i => i
  | v :: r, s, h, l, i => by
    rw [List.foldl_cons]
    by_cases hv : v = 0
    · have e : (v :: r).filter nz = r.filter nz := by simp [nz, hv]
      rw [side_zero hv, e]
      exact side_fold r s h l i
    · have e : (v :: r).filter nz = v :: r.filter nz := by simp [nz, hv]
      rw [e]
      have ih := side_fold r _ h _ (side_next hv i)
      cases hq : r.filter nz with
      | nil => rw [hq] at ih; exact ih
      | cons w q =>
        rw [hq] at ih
        rw [List.getLast?_cons_cons]
        exact ih
theorem sides_ends : ∀ {vs : List Int} {a b : Int}, (vs.filter nz).head? = some a → (vs.filter nz).getLast? = some b → ((sidesOf vs).length % 2 = 1 ↔ decide (a > 0) = decide (b > 0))
  | [], a, b, h, _ => nomatch h
  | v :: r, a, b, h1, h2 => by
    unfold sidesOf
    rw [List.foldl_cons]
    by_cases hv : v = 0
    · have e : (v :: r).filter nz = r.filter nz := by simp [nz, hv]
      rw [e] at h1 h2
      rw [side_zero hv]
      exact sides_ends h1 h2
    · have e : (v :: r).filter nz = v :: r.filter nz := by simp [nz, hv]
      rw [e] at h1 h2
      cases h1
      have i := side_fold r _ _ _ (side_first hv)
      cases hq : r.filter nz with
      | nil =>
        rw [hq] at h2 i
        cases h2
        exact i.2.2
      | cons w q =>
        rw [hq] at h2 i
        rw [List.getLast?_cons_cons] at h2
        rw [h2] at i
        exact i.2.2
theorem exists_max : ∀ (l : List Int), l ≠ [] → ∃ p ∈ l, ∀ r ∈ l, r ≤ p
  | [], h => absurd rfl h
  | [a], _ => ⟨a, List.mem_cons_self, fun r hr => by rw [List.mem_singleton.mp hr]; exact Int.le_refl _⟩
  | a :: b :: l, _ => by
    obtain ⟨p, hp, hm⟩ := exists_max (b :: l) (by simp)
    by_cases h : a ≤ p
    · refine ⟨p, List.mem_cons_of_mem _ hp, fun r hr => ?_⟩
      rcases List.mem_cons.mp hr with rfl | hr
      · exact h
      · exact hm r hr
    · refine ⟨a, List.mem_cons_self, fun r hr => ?_⟩
      rcases List.mem_cons.mp hr with rfl | hr
      · exact Int.le_refl _
      · have := hm r hr; omega
theorem lev_congr : ∀ {cs : List Ch} {x y : Int}, (∀ c ∈ cs, c.2 ≤ x ↔ c.2 ≤ y) → lev cs x = lev cs y
  | [], _, _, _ => rfl
  | c :: r, x, y, h => by
    rw [lev_cons, lev_cons, lev_congr fun d hd => h d (List.mem_cons_of_mem _ hd)]
    have := h c List.mem_cons_self
    by_cases h1 : c.2 ≤ x
    · rw [if_pos h1, if_pos (this.mp h1)]
    · rw [if_neg h1, if_neg (fun q => h1 (this.mpr q))]
section
variable {cs : List Ch} {E O P : List Int}
/-- a level that is not nought is the level of the last point up to there -/
theorem Rows.step (R : Rows cs E O P) {y : Int} (h : lev cs y ≠ 0) : ∃ p ∈ P, p ≤ y ∧ (∀ r ∈ P, r ≤ y → r ≤ p) ∧ lev cs p = lev cs y := by
  have hne : P.filter (fun x => decide (x ≤ y)) ≠ [] := by
    intro e
    refine h (lev_none fun c hc hle => ?_)
    have : c.2 ∈ P.filter (fun x => decide (x ≤ y)) := List.mem_filter.mpr ⟨R.mem.mpr ⟨c, hc, rfl⟩, by simpa using hle⟩
    rw [e] at this
    exact nomatch this
  obtain ⟨p, hp, hm⟩ := exists_max _ hne
  obtain ⟨hp1, hp2⟩ := List.mem_filter.mp hp
  have hp3 : p ≤ y := by simpa using hp2
  refine ⟨p, hp1, hp3, fun r hr hry => hm r (List.mem_filter.mpr ⟨hr, by simpa using hry⟩), lev_congr fun c hc => ⟨fun q => Int.le_trans q hp3, fun q => ?_⟩⟩
  exact hm c.2 (List.mem_filter.mpr ⟨R.mem.mpr ⟨c, hc, rfl⟩, by simpa using q⟩)
end
section
variable {m0 m1 m2 m3 : Nat} {a b c d : Int} {E O P : List Int}
def signK (m0 m1 m2 m3 : Nat) : Int := sn m0 * sn m1 * sn m2 * sn m3
theorem signK_odds : signK m0 m1 m2 m3 = if (odds4 m0 m1 m2 m3 a b c d).length % 2 = 0 then 1 else -1 := by
  unfold signK odds4
  rcases sn_cases m0 with ⟨h0, s0⟩ | ⟨h0, s0⟩ <;> rcases sn_cases m1 with ⟨h1, s1⟩ | ⟨h1, s1⟩ <;> rcases sn_cases m2 with ⟨h2, s2⟩ | ⟨h2, s2⟩ <;> rcases sn_cases m3 with ⟨h3, s3⟩ | ⟨h3, s3⟩ <;> simp [h0, h1, h2, h3, s0, s1, s2, s3]
theorem ends_sign (R : Rows (chs m0 m1 m2 m3 a b c d) E O P) (hz : odds4 m0 m1 m2 m3 a b c d ≠ []) {f q : Int}
    (hfP : f ∈ P) (hf : lev (chs m0 m1 m2 m3 a b c d) f ≠ 0) (hfm : ∀ p ∈ P, lev (chs m0 m1 m2 m3 a b c d) p ≠ 0 → f ≤ p)
    (hqP : q ∈ P) (hq : lev (chs m0 m1 m2 m3 a b c d) q ≠ 0) (hqm : ∀ p ∈ P, lev (chs m0 m1 m2 m3 a b c d) p ≠ 0 → p ≤ q) :
    lev (chs m0 m1 m2 m3 a b c d) q = -signK m0 m1 m2 m3 * lev (chs m0 m1 m2 m3 a b c d) f := by
  have flip := lev_flip m0 m1 m2 m3 a b c d ((weighs m0 m1 m2 m3 a b c d).zero hz)
  have hK : signK m0 m1 m2 m3 * signK m0 m1 m2 m3 = 1 := by
    rw [signK_odds (a := a) (b := b) (c := c) (d := d)]; split <;> rfl
  have flip' : ∀ x, lev (chs m0 m1 m2 m3 a b c d) x = -signK m0 m1 m2 m3 * lev (chs m0 m1 m2 m3 a b c d) (a + b + c + d - x - 1) := flip
  have hy : lev (chs m0 m1 m2 m3 a b c d) (a + b + c + d - f - 1) = -signK m0 m1 m2 m3 * lev (chs m0 m1 m2 m3 a b c d) f := by
    have := flip' (a + b + c + d - f - 1)
    rw [show a + b + c + d - (a + b + c + d - f - 1) - 1 = f by omega] at this
    exact this
  have hy0 : lev (chs m0 m1 m2 m3 a b c d) (a + b + c + d - f - 1) ≠ 0 := by
    intro e
    have := flip' f
    rw [e] at this
    exact hf (by rw [this]; simp)
  obtain ⟨p, hpP, hpy, hpm, hpl⟩ := R.step hy0
  have hpq : p ≤ q := hqm p hpP (by rw [hpl]; exact hy0)
  have hqy : q ≤ a + b + c + d - f - 1 := by
    refine Classical.byContradiction fun hn => ?_
    have hw : lev (chs m0 m1 m2 m3 a b c d) (a + b + c + d - q - 1) ≠ 0 := by
      intro e
      have := flip' q
      rw [e] at this
      exact hq (by rw [this]; simp)
    obtain ⟨r, hrP, hry, _, hrl⟩ := R.step hw
    have := hfm r hrP (by rw [hrl]; exact hw)
    omega
  have hqp := hpm q hqP hqy
  have e : p = q := Int.le_antisymm hpq hqp
  subst e
  rw [hpl, hy]
/-- stretches and odd numbers together are even in number -/
theorem sides_even (R : Rows (chs m0 m1 m2 m3 a b c d) E O P) (hd : dueZ (odds4 m0 m1 m2 m3 a b c d) ≠ 0) (hz : odds4 m0 m1 m2 m3 a b c d ≠ []) :
    ((sidesOf (P.map (lev (chs m0 m1 m2 m3 a b c d)))).length + (odds4 m0 m1 m2 m3 a b c d).length) % 2 = 0 := by
  have hne : P.filter (fun x => nz (lev (chs m0 m1 m2 m3 a b c d) x)) ≠ [] := by
    intro e
    refine hd ?_
    rw [← moved_due R hz]
    refine mv_zero_at _ fun x hx => ?_
    refine Classical.byContradiction fun hn => ?_
    have : x ∈ P.filter (fun x => nz (lev (chs m0 m1 m2 m3 a b c d) x)) := List.mem_filter.mpr ⟨hx, by simp [nz, hn]⟩
    rw [e] at this
    exact nomatch this
  have hfilt : (P.map (lev (chs m0 m1 m2 m3 a b c d))).filter nz = (P.filter (fun x => nz (lev (chs m0 m1 m2 m3 a b c d) x))).map (lev (chs m0 m1 m2 m3 a b c d)) := by
    rw [List.filter_map]; rfl
  have hsd : Sd (P.filter (fun x => nz (lev (chs m0 m1 m2 m3 a b c d) x))) := List.Pairwise.filter _ R.sdP
  have hmem : ∀ x, x ∈ P.filter (fun x => nz (lev (chs m0 m1 m2 m3 a b c d) x)) ↔ x ∈ P ∧ lev (chs m0 m1 m2 m3 a b c d) x ≠ 0 := by
    intro x
    rw [List.mem_filter]
    simp [nz]
  generalize P.filter (fun x => nz (lev (chs m0 m1 m2 m3 a b c d) x)) = Q at hne hfilt hsd hmem
  cases Q with
  | nil => exact absurd rfl hne
  | cons f r =>
    have hq := List.getLast_mem (l := f :: r) (by simp)
    have hlast : lastD (f :: r) = (f :: r).getLast (by simp) := by unfold lastD; rw [List.getLastD_eq_getLast?, List.getLast?_eq_some_getLast (by simp)]; rfl
    have ef := (hmem f).mp List.mem_cons_self
    have eq := (hmem _).mp hq
    have es := ends_sign R hz ef.1 ef.2 (fun p hp hpl => by
      have := (hmem p).mpr ⟨hp, hpl⟩
      rcases List.mem_cons.mp this with rfl | h
      · exact Int.le_refl _
      · exact (List.pairwise_cons.mp hsd).1 p h) eq.1 eq.2 (fun p hp hpl => by
      rw [← hlast]
      exact lastD_max hsd p ((hmem p).mpr ⟨hp, hpl⟩))
    have hs := sides_ends (vs := P.map (lev (chs m0 m1 m2 m3 a b c d))) (a := lev (chs m0 m1 m2 m3 a b c d) f) (b := lev (chs m0 m1 m2 m3 a b c d) ((f :: r).getLast (by simp))) (by rw [hfilt]; rfl) (by rw [hfilt, List.getLast?_map, List.getLast?_eq_some_getLast (by simp)]; rfl)
    rw [es, signK_odds (a := a) (b := b) (c := c) (d := d)] at hs
    have hf0 := ef.2
    generalize lev (chs m0 m1 m2 m3 a b c d) f = v at hs hf0
    generalize (sidesOf (P.map (lev (chs m0 m1 m2 m3 a b c d)))).length = n at hs ⊢
    generalize (odds4 m0 m1 m2 m3 a b c d).length = j at hs ⊢
    by_cases hj : j % 2 = 0
    · rw [if_pos hj] at hs
      have : ¬ (decide (v > 0) = decide (-1 * v > 0)) := by
        by_cases h : v > 0
        · simp [h]; omega
        · simp [h]; omega
      have h2 : ¬ n % 2 = 1 := fun h => this (hs.mp h)
      omega
    · rw [if_neg hj] at hs
      have : decide (v > 0) = decide (-(-1) * v > 0) := by simp
      have h2 := hs.mpr this
      omega
end
end
section
open PySem PySem.W PyProof.Rows
/-! the rows that the walk lays are the rows that the plain part speaks of -/
theorem filter_or {α : Type} (p q r : α → Bool) : ∀ (l : List α), (∀ x ∈ l, r x = (p x || q x)) → (∀ x ∈ l, ¬ (p x = true ∧ q x = true)) → (l.filter r).Perm (l.filter p ++ l.filter q)
  | [], _, _ => List.Perm.refl _
  | x :: l, h1, h2 => by
    have ih := filter_or p q r l (fun y hy => h1 y (List.mem_cons_of_mem _ hy)) (fun y hy => h2 y (List.mem_cons_of_mem _ hy))
    have e1 := h1 x List.mem_cons_self
    have e2 := h2 x List.mem_cons_self
    cases hp : p x with
    | true =>
      have hq : q x = false := by
        cases hq : q x with
        | true => exact absurd ⟨hp, hq⟩ e2
        | false => rfl
      have hr : r x = true := by rw [e1, hp]; rfl
      rw [List.filter_cons_of_pos hr, List.filter_cons_of_pos hp, List.filter_cons_of_neg (by rw [hq]; exact Bool.false_ne_true)]
      exact ih.cons x
    | false =>
      cases hq : q x with
      | true =>
        have hr : r x = true := by rw [e1, hp, hq]; rfl
        rw [List.filter_cons_of_pos hr, List.filter_cons_of_neg (by rw [hp]; exact Bool.false_ne_true), List.filter_cons_of_pos hq]
        exact (ih.cons x).trans List.perm_middle.symm
      | false =>
        have hr : r x = false := by rw [e1, hp, hq]; rfl
        rw [List.filter_cons_of_neg (by rw [hr]; exact Bool.false_ne_true), List.filter_cons_of_neg (by rw [hp]; exact Bool.false_ne_true), List.filter_cons_of_neg (by rw [hq]; exact Bool.false_ne_true)]
        exact ih
theorem rowPre_perm' (cs : List Ch) {rest : Nat} (hr : rest < 2) : ∀ M, (rowPre cs rest M).Perm ((cs.filter fun c => decide (c.1 % 2 = rest ∧ c.1 < 2 * M)).map (·.2))
  | 0 => by
    have : cs.filter (fun c => decide (c.1 % 2 = rest ∧ c.1 < 2 * 0)) = [] := by
      rw [List.filter_eq_nil_iff]; intro c _; simp
    rw [this]
    exact List.Perm.refl _
  | M + 1 => by
    refine ((rowPre_perm' cs hr M).append_right _).trans ?_
    unfold selR
    rw [← List.map_append]
    refine List.Perm.map _ (List.Perm.symm ?_)
    refine filter_or _ _ _ cs (fun c _ => ?_) (fun c _ => ?_)
    · have : (c.1 % 2 = rest ∧ c.1 < 2 * (M + 1)) ↔ ((c.1 % 2 = rest ∧ c.1 < 2 * M) ∨ c.1 = 2 * M + rest) := by omega
      rw [decide_eq_decide.mpr this, Bool.decide_or]
    · simp only [decide_eq_true_eq]
      omega
theorem rowPre_perm {cs : List Ch} {rest : Nat} (hr : rest < 2) {M : Nat} (hM : ∀ c ∈ cs, c.1 < 2 * M) : (rowPre cs rest M).Perm ((cs.filter fun c => decide (c.1 % 2 = rest)).map (·.2)) := by
  have h := rowPre_perm' cs hr M
  have e : cs.filter (fun c => decide (c.1 % 2 = rest ∧ c.1 < 2 * M)) = cs.filter (fun c => decide (c.1 % 2 = rest)) := by
    refine List.filter_congr fun c hc => ?_
    have := hM c hc
    simp [this]
  rw [e] at h
  exact h
theorem insL_row {cs : List Ch} {rest : Nat} (hr : rest < 2) {M : Nat} (hM : ∀ c ∈ cs, c.1 < 2 * M) : (insL [] (rowPre cs rest M)).Perm ((cs.filter fun c => decide (c.1 % 2 = rest)).map (·.2)) := by
  have h := insL_perm (rowPre cs rest M) []
  rw [List.append_nil] at h
  exact h.trans (rowPre_perm hr hM)
theorem rows_of {cs : List Ch} {M M2 : Nat} {P : List Int} (hM : ∀ c ∈ cs, c.1 < 2 * M) (hM2 : ∀ c ∈ cs, c.1 < 2 * M2) (hp : P.Perm (insL [] (rowPre cs 0 M) ++ insL [] (rowPre cs 1 M2))) (hs : P.Pairwise (· ≤ ·)) :
    Rows cs (insL [] (rowPre cs 0 M)) (insL [] (rowPre cs 1 M2)) P :=
  ⟨insL_sd _ List.Pairwise.nil, insL_sd _ List.Pairwise.nil, hs, insL_row (by decide) hM, insL_row (by decide) hM2, hp⟩
theorem row_len {cs : List Ch} {rest : Nat} (hr : rest < 2) {M : Nat} (hM : ∀ c ∈ cs, c.1 < 2 * M) : (insL [] (rowPre cs rest M)).length ≤ cs.length := by
  rw [(insL_row hr hM).length_eq, List.length_map]; exact List.length_filter_le _ _
end
section
open PySem PySem.W PyProof.Rows
/-- a call's contract: from every caller's frame the call hands back a value and a ledger that Post tells -/
def Con (w : World) (loose : List Str) (mean : ExcName → Option Value) (mg mb : Str → Option Value) (f : Addr) (news : List (Addr × Obj)) (vs : List Value) (D : Nat) (Post : Value → List (Addr × Obj) → Prop) : Prop :=
  ∀ (dp un : Nat) (gd : Option (List Code)) (cn : Str) (cs : Scope) (a : Addr) (ccd : Value) (cl : List (Str × Addr)) (outer : List Env) (A₀ : Around) (base h₀ : Heap) (L : Addr) (m : Str → Option Value) (s : Shared) (Q E : Value → Shared → Prop),
    Below A₀ base outer h₀ → Fr h₀ L s.heap m → (Mine.heapK w.params).In h₀ → News h₀ L s.heap news → Top viewK loose mean mg mb h₀ → cs.kind = .function →
    dp + D < recursionLimit → un + 8 * D < cLine → (∀ v news' h' tk', Fr h₀ L h' m → News h₀ L h' news' → Post v news' → Q v { s with heap := h', toks := tk' }) →
      wpAny (model PySem.Challenge.rw_ux0026_02.row.prog w) (ktrTop dp un gd cn cs L a ccd cl outer) (call (.ref f) vs) Q E s
theorem Con.use {w : World} {loose : List Str} {mean : ExcName → Option Value} {mg mb : Str → Option Value} {f : Addr} {news : List (Addr × Obj)} {vs : List Value} {D : Nat} {Post : Value → List (Addr × Obj) → Prop}
    {dp un : Nat} {gd : Option (List Code)} {cn : Str} {cs : Scope} {a : Addr} {ccd : Value} {cl : List (Str × Addr)} {outer : List Env} {A₀ : Around} {base h₀ : Heap} {L : Addr} {m : Str → Option Value} {s : Shared} {Q E : Value → Shared → Prop}
    (c : Con w loose mean mg mb f news vs D Post) (B : Below A₀ base outer h₀) (F : Fr h₀ L s.heap m) (X : (Mine.heapK w.params).In h₀) (N : News h₀ L s.heap news) (T : Top viewK loose mean mg mb h₀) (hk : cs.kind = .function)
    (hd : dp + D < recursionLimit) (hu : un + 8 * D < cLine) (ret : ∀ v news' h' tk', Fr h₀ L h' m → News h₀ L h' news' → Post v news' → Q v { s with heap := h', toks := tk' }) :
    wpAny (model PySem.Challenge.rw_ux0026_02.row.prog w) (ktrTop dp un gd cn cs L a ccd cl outer) (call (.ref f) vs) Q E s := c _ _ _ _ _ _ _ _ _ _ _ _ _ _ _ _ _ B F X N T hk hd hu ret
end
section
open PySem PySem.W PyProof.Rows
local macro_rules | `(tactic| walk_at "KswEnd") => `(tactic| refine Hold.out ?_)

section
variable (w : World) (loose : List Str) (mean : ExcName → Option Value) (mg mb : Str → Option Value) (news : List (Addr × Obj))
theorem parse_ok (x : Str) (t0 : Tok) (hx : x.length ≤ 1000) (h5 : 5 ≤ x.length) (h3 : x.cps.toList.take 3 = [50, 53, 55]) :
  Con w loose mean mg mb 70 news [.str x t0] 1 (fun v n => n = news ∧ ∃ t, v = .str (tx (p257 x.cps.toList)) t) := by
  have e3 : Txt.slice x none (some 3) = tx (x.cps.toList.take 3) := slice_to (j := 3) (by omega)
  have e35 : Txt.slice x (some 3) (some 5) = tx ((x.cps.toList.drop 3).take 2) := slice_ab (i := 3) (j := 5) (by omega) (by omega)
  unfold Con
  k_fill
  intro dp un gd cn cs a ccd cl outer A₀ base h₀ L m s Q E B F X N T hk hd hu hret
  k_with_none
  w_strict (refine wpAny_call ?_; k_dflt cell_enter; repeat' ((fail_if_success (with_reducible show wpAny _ _ (exec (Stmt.While _ _ _ _) _) _ _ _)); first | (k_unfold; (try dsimp only)) | (k_end; wrow_close) | walk1 | (dsimp only; walk1) | (leave1; walk_say "STEP leave1"; try dsimp only) | fail "no step"))
  · rename (_ != _) = true => hn
    rw [e3, h3] at hn
    exact absurd hn (by decide)
  · rename (_ != _) = true => hn
    rw [e35, show (Str.ofString " \"") = tx [32, 34] from by decide, tx_bne] at hn
    refine hret _ _ _ _ (by assumption) (by assumption) ⟨rfl, _, congrArg (fun z => Value.str z _) ?_⟩
    unfold p257
    rw [if_neg (of_decide_eq_true hn)]
    decide
  · rename ((Txt.slice x (some 3) (some 5)) != _) = false => hn
    rw [e35, show (Str.ofString " \"") = tx [32, 34] from by decide, tx_bne] at hn
    have hn' := of_decide_eq_false hn
    simp only [ne_eq, Decidable.not_not] at hn'
    have hp : p257 x.cps.toList = scan (x.cps.toList.drop 5) [] := by unfold p257; rw [if_pos hn']
    rename Fr _ _ _ _ => lF
    rename News _ _ _ _ => lN
    with_unfolding_all refine' ksw_while (σ := Int × Tok × Str × Tok) (fun _ => news) (fun c => [(Str.ofString "i", Value.int c.1 c.2.1), (Str.ofString "dirname", Value.str c.2.2.1 c.2.2.2)]) (fun _ => True) [Str.ofString "c"]  (fun c => 5 ≤ c.1 ∧ c.2.2.1.length ≤ c.1.toNat ∧ c.1 ≤ (x.length : Int) ∧ scan (x.cps.toList.drop c.1.toNat) c.2.2.1.cps.toList = scan (x.cps.toList.drop 5) [])  (fun c => x.length - c.1.toNat) (5, _, "", _) lF lN trivial ?kk ?kp ?turn (hE := ?hE)
    case hE => passes_own
    case kk => kst_all
    case kp => exact ⟨by show (5 : Int) ≤ 5; omega, by show (0 : Nat) ≤ _; omega, by show (5 : Int) ≤ _; omega, rfl⟩
    case turn =>
      rintro ⟨i, ti, d, td⟩ u h tk - hI F N
      clear lF lN
      dsimp only at *
      obtain ⟨i5, hdl, hix, hsc⟩ := hI
      have hsx : x.length = x.cps.toList.length := by simp [Str.length]
      k_unmd
      k_fold
      w_strict (repeat' (first | (k_unfold; (try dsimp only)) | (k_end; wrow_close) | walk1 | (dsimp only; walk1) | (leave1; walk_say "STEP leave1"; try dsimp only) | fail "no step"))
      · rename i < _ => hlt
        rename (Txt.item x i == _) = true => hc
        rename _ ≤ i + 1 => hle
        obtain ⟨c, hc1, hc2⟩ := item_at (x := x) (i := i) (by omega) hlt
        rw [hc2, show (Str.ofString "\"") = tx [34] from by decide, tx_beq] at hc
        have hc' : c = 34 := by simpa using of_decide_eq_true hc
        subst hc'
        refine hret _ _ _ _ (by assumption) (by assumption) ⟨rfl, _, congrArg (fun z => Value.str z _) ?_⟩
        rw [hp, ← hsc, scan_last hc1 (by omega), tx_of]
      · rename i < _ => hlt
        rename (Txt.item x i == _) = true => hc
        rename ¬ _ ≤ i + 1 => hle
        rename (Txt.item x (i + 1) != _) = true => hd
        obtain ⟨c, hc1, hc2⟩ := item_at (x := x) (i := i) (by omega) hlt
        rw [hc2, show (Str.ofString "\"") = tx [34] from by decide, tx_beq] at hc
        have hc' : c = 34 := by simpa using of_decide_eq_true hc
        subst hc'
        obtain ⟨c2, hd1, hd2⟩ := item_at (x := x) (i := i + 1) (by omega) (by omega)
        rw [hd2, show (Str.ofString "\"") = tx [34] from by decide, tx_bne] at hd
        have hd' : c2 ≠ 34 := by simpa using of_decide_eq_true hd
        have ei : (i + 1).toNat = i.toNat + 1 := by omega
        rw [ei] at hd1
        refine hret _ _ _ _ (by assumption) (by assumption) ⟨rfl, _, congrArg (fun z => Value.str z _) ?_⟩
        rw [hp, ← hsc, scan_stop hc1 hd1 hd', tx_of]
      · rename i < _ => hlt
        rename (Txt.item x i == _) = true => hc
        rename ¬ _ ≤ i + 1 => hle
        rename (Txt.item x (i + 1) != _) = false => hd
        obtain ⟨c, hc1, hc2⟩ := item_at (x := x) (i := i) (by omega) hlt
        rw [hc2, show (Str.ofString "\"") = tx [34] from by decide, tx_beq] at hc
        have hc' : c = 34 := by simpa using of_decide_eq_true hc
        subst hc'
        obtain ⟨c2, hd1, hd2⟩ := item_at (x := x) (i := i + 1) (by omega) (by omega)
        rw [hd2, show (Str.ofString "\"") = tx [34] from by decide, tx_bne] at hd
        have hd' : c2 = 34 := by simpa using of_decide_eq_false hd
        subst hd'
        have ei : (i + 1).toNat = i.toNat + 1 := by omega
        rw [ei] at hd1
        refine' ksw_end (i + 1 + 1, _, d ++ Txt.item x i, _) (by assumption) (by assumption) (fun _ h9 => h9) trivial ?kk ?kr ?kp ?km
        case kk => kst_all
        case kr => (intro z h2 h3; simp only [List.forall_mem_cons, List.not_mem_nil, false_implies, implies_true, and_true, ne_eq] at h2; simp only [List.contains_cons, List.contains_nil, Bool.or_false, Bool.or_eq_false_iff, beq_eq_false_iff_ne, ne_eq] at h3; simp [kstB, h2, h3])
        case kp =>
          have e2 : (i + 1 + 1).toNat = i.toNat + 2 := by omega
          refine ⟨by show 5 ≤ i + 1 + 1; omega, ?_, by show i + 1 + 1 ≤ _; omega, ?_⟩
          · show (d ++ Txt.item x i).length ≤ (i + 1 + 1).toNat
            rw [hc2, Str.length_append, tx_len]; simp only [List.length_cons, List.length_nil]; omega
          · show scan (x.cps.toList.drop (i + 1 + 1).toNat) (d ++ Txt.item x i).cps.toList = _
            rw [e2, hc2, str_app, tx_cps, ← scan_two hc1 hd1, hsc]
        case km => show x.length - (i + 1 + 1).toNat < x.length - i.toNat; omega
      · rename i < _ => hlt
        rename (Txt.item x i == _) = false => hc
        obtain ⟨c, hc1, hc2⟩ := item_at (x := x) (i := i) (by omega) hlt
        rw [hc2, show (Str.ofString "\"") = tx [34] from by decide, tx_beq] at hc
        have hc' : c ≠ 34 := by simpa using of_decide_eq_false hc
        refine' ksw_end (i + 1, _, d ++ Txt.item x i, _) (by assumption) (by assumption) (fun _ h9 => h9) trivial ?kk ?kr ?kp ?km
        case kk => kst_all
        case kr => (intro z h2 h3; simp only [List.forall_mem_cons, List.not_mem_nil, false_implies, implies_true, and_true, ne_eq] at h2; simp only [List.contains_cons, List.contains_nil, Bool.or_false, Bool.or_eq_false_iff, beq_eq_false_iff_ne, ne_eq] at h3; simp [kstB, h2, h3])
        case kp =>
          have e2 : (i + 1).toNat = i.toNat + 1 := by omega
          refine ⟨by show 5 ≤ i + 1; omega, ?_, by show i + 1 ≤ _; omega, ?_⟩
          · show (d ++ Txt.item x i).length ≤ (i + 1).toNat
            rw [hc2, Str.length_append, tx_len]; simp only [List.length_cons, List.length_nil]; omega
          · show scan (x.cps.toList.drop (i + 1).toNat) (d ++ Txt.item x i).cps.toList = _
            rw [e2, hc2, str_app, tx_cps, ← scan_one hc1 hc', hsc]
        case km => show x.length - (i + 1).toNat < x.length - i.toNat; omega
      · rename ¬ i < _ => hlt
        refine hret _ _ _ _ (by assumption) (by assumption) ⟨rfl, _, congrArg (fun z => Value.str z _) ?_⟩
        rw [hp, ← hsc, scan_end (by omega), tx_of]
end
end
local macro_rules | `(tactic| k_mem) => `(tactic| first | with_reducible assumption | with_reducible exact List.mem_cons_of_mem _ (by assumption) | with_reducible exact List.mem_cons_of_mem _ (List.mem_cons_of_mem _ (by assumption)) | with_reducible exact List.mem_cons_of_mem _ (List.mem_cons_of_mem _ (List.mem_cons_of_mem _ (by assumption))) | with_reducible exact List.mem_cons_of_mem _ (List.mem_cons_of_mem _ (List.mem_cons_of_mem _ (List.mem_cons_of_mem _ (by assumption)))) | with_reducible exact List.mem_cons_of_mem _ (List.mem_cons_of_mem _ (List.mem_cons_of_mem _ (List.mem_cons_of_mem _ (List.mem_cons_of_mem _ (by assumption))))) | with_reducible exact List.mem_cons_of_mem _ (List.mem_cons_of_mem _ (List.mem_cons_of_mem _ (List.mem_cons_of_mem _ (List.mem_cons_of_mem _ (List.mem_cons_of_mem _ (by assumption)))))) | with_reducible exact List.mem_cons_of_mem _ (List.mem_cons_of_mem _ (List.mem_cons_of_mem _ (List.mem_cons_of_mem _ (List.mem_cons_of_mem _ (List.mem_cons_of_mem _ (List.mem_cons_of_mem _ (by assumption))))))) | with_reducible exact List.mem_cons_of_mem _ (List.mem_cons_of_mem _ (List.mem_cons_of_mem _ (List.mem_cons_of_mem _ (List.mem_cons_of_mem _ (List.mem_cons_of_mem _ (List.mem_cons_of_mem _ (List.mem_cons_of_mem _ (by assumption)))))))) | with_reducible exact List.mem_cons_of_mem _ (List.mem_cons_of_mem _ (List.mem_cons_of_mem _ (List.mem_cons_of_mem _ (List.mem_cons_of_mem _ (List.mem_cons_of_mem _ (List.mem_cons_of_mem _ (List.mem_cons_of_mem _ (List.mem_cons_of_mem _ (by assumption))))))))) | with_reducible exact List.mem_cons_of_mem _ (List.mem_cons_of_mem _ (List.mem_cons_of_mem _ (List.mem_cons_of_mem _ (List.mem_cons_of_mem _ (List.mem_cons_of_mem _ (List.mem_cons_of_mem _ (List.mem_cons_of_mem _ (List.mem_cons_of_mem _ (List.mem_cons_of_mem _ (by assumption)))))))))) | with_reducible exact List.mem_cons_of_mem _ (List.mem_cons_of_mem _ (List.mem_cons_of_mem _ (List.mem_cons_of_mem _ (List.mem_cons_of_mem _ (List.mem_cons_of_mem _ (List.mem_cons_of_mem _ (List.mem_cons_of_mem _ (List.mem_cons_of_mem _ (List.mem_cons_of_mem _ (List.mem_cons_of_mem _ (by assumption))))))))))))
local macro_rules | `(tactic| walk_at "KswEnd") => `(tactic| refine Hold.out ?_)
local macro_rules | `(tactic| walk_at "InvEndN") => `(tactic| refine Hold.out ?_)
local macro_rules | `(tactic| walk_at "InvEndG") => `(tactic| refine Hold.out ?_)
local macro_rules | `(tactic| walk_at "call builtin:len") => `(tactic| (k_here; (with_reducible show wpAny _ _ (call (Value.builtin _) [Value.ref _]) _ _ _); k_dflt (refine' len_I ?k1 ?k2 ?k3 ?k4 ?kr; (case k1 => k_asm); (case k2 => k_mem); (case k3 => assumption); (case k4 => first | assumption | omega)); (try dsimp only); (try k_fold)))
local macro_rules | `(tactic| walk_at "mine item") => `(tactic| (k_here; (with_reducible show wpAny _ _ (subscriptTail _ _ (Value.ref _) (Value.int _ _)) _ _ _); k_dflt ((with_unfolding_all refine' item_I ?k1 ?k2 ?k3 ?k4 ?k5 ?k6 ?kr); (case k1 => k_asm); (case k2 => k_mem); (case k3 => assumption); (case k4 => first | assumption | omega); (case k5 => omega); (case k6 => omega); intro t9); (try dsimp only); (try k_fold)))
local macro_rules | `(tactic| walk_at "subscriptTail Name") => `(tactic| walk_at "mine item")
local macro_rules | `(tactic| walk_at "exec For Name Name cons nil") => `(tactic| (k_here; (rename Fr _ _ _ _ => lF'); (with_unfolding_all refine' For_invVF lF' ?k1 ?k2 ?_; (case k1 => exact rfl); (case k2 => exact rfl); k_whole)))
local macro_rules | `(tactic| walk_at "exec For Tuple") => `(tactic| (k_here; (rename Fr _ _ _ _ => lF'); (with_unfolding_all refine' For_turns lF' ?_); k_whole))
local macro_rules | `(tactic| walk_at "PostJ") => `(tactic| (dsimp only [PostJ]))
local macro_rules | `(tactic| walk_at "EndJ") => `(tactic| refine Hold.out ?_)
local macro_rules | `(tactic| walk_at "delItem ref str") => `(tactic| (k_here; (with_reducible show wpAny _ _ (delItem (Value.ref _) _) _ _ _); k_dflt (refine' delItem_K ?F ?X ?I ?hQ ?hS ?hF ?_; (case F => k_asm); (case X => k_asm); (case I => k_inst); (case hS => k_is); (case hF => k_is); (case hQ => k_is); k_whole)))
local macro_rules | `(tactic| walk_at "callWith ref") => `(tactic| (k_here; k_dflt (refine' callWith_K ?k1 ?k2 ?_; (case k1 => k_asm); (case k2 => k_is); k_whole)))
local macro_rules | `(tactic| walk_at "CompEnd") => `(tactic| refine Hold.out ?_)
local macro_rules | `(tactic| walk_at "call ref") => `(tactic| walk_at "mine use 1")
section
open PySem PySem.W PyProof.Rows


theorem fdiv2 {a b : Int} (ha : 0 ≤ a) (hb : 0 ≤ b) : ((a + b).fdiv 2).toNat = (a.toNat + b.toNat) / 2 := by
  rw [Int.fdiv_eq_ediv_of_nonneg _ (by decide)]; omega
section
variable (w : World) (loose : List Str) (mean : ExcName → Option Value) (mg mb : Str → Option Value) (news : List (Addr × Obj))
theorem bis_ok2 (l : Addr) (vs : List Value) (ns : List Int) (nn : Nat) (x : Int) (tx : Tok)  (hm : (l, listOf vs.toArray nn) ∈ news) (hi : IntsAre vs ns) (hl : ns.length ≤ 1000)  :
  Con w loose mean mg mb 88 news [.ref l, .int x tx] 1 (fun v n' => n' = news ∧ ∃ tk, v = .int (bisR ns x 0 ns.length : Nat) tk) := by
  unfold Con
  k_fill
  intro dp un gd cn cs a ccd cl outer A₀ base h₀ L m s Q E B F X N T hk hd hu hret
  k_with_none
  w_strict (refine wpAny_call ?_; k_dflt (refine' code_def ?k1 ?k2 ?k3 ?k4 ?k5 ?kA ?kF ?kK ?k6 ?k7 ?k8 ?k9 ?kB ?_ ?c2 ?c3 ?c4 ?c5; (case kA => exact rfl); (case kF => exact rfl); (case kK => assumption); (case k1 => k_asm); (case k2 => k_asm); (case k3 => k_asm); (case k4 => k_asm); (case k5 => k_asm); (case k6 => k_is); (case k7 => k_is); (case k8 => ktr_room); (case k9 => (refine' kp_binds ?kx ?ke; (case kx => k_in); (case ke => exact fun _ => rfl))); (case c5 => decide); (case kB => exact locs rfl); (case c2 => exact rfl); (case c3 => exact rfl); (case c4 => exact rfl); k_whole; intro g' L' h' FG' F' N' B' X' T'; (try dsimp only); (try k_lift B'); (try k_fold)); repeat' ((fail_if_success (with_reducible show wpAny _ _ (exec (Stmt.While _ _ _ _) _) _ _ _)); first | (k_unfold; (try dsimp only)) | (k_end; wrow_close) | walk1 | (dsimp only; walk1) | (leave1; walk_say "STEP leave1"; try dsimp only) | fail "no step"))
  rename Fr _ _ _ _ => lF
  rename News _ _ _ _ => lN
  with_unfolding_all refine' ksw_while (σ := Int × Tok × Int × Tok) (fun _ => news) (fun c => [(Str.ofString "lo", Value.int c.1 c.2.1), (Str.ofString "hi", Value.int c.2.2.1 c.2.2.2)]) (fun _ => True) [Str.ofString "mid"]  (fun c => 0 ≤ c.1 ∧ 0 ≤ c.2.2.1 ∧ c.2.2.1 ≤ ns.length ∧ bisR ns x c.1.toNat c.2.2.1.toNat = bisR ns x 0 ns.length)  (fun c => c.2.2.1.toNat - c.1.toNat) (0, _, ns.length, _) ?cF ?cN trivial ?kk ?kp ?turn (hE := ?hE)
  case cF => exact lF
  case cN => exact lN
  case hE => passes_own
  case kk => kst_all
  case kp => (refine ⟨?_, ?_, ?_, rfl⟩ <;> (dsimp only; omega))
  case turn =>
    rintro ⟨lo, ti, hi', td⟩ u h tk - hI F N
    clear lF lN
    dsimp only at *
    obtain ⟨h0, h1, h2, h3⟩ := hI
    have hmid := fdiv2 h0 h1
    k_unmd
    k_fold
    w_strict (repeat' (first | (k_unfold; (try dsimp only)) | (k_end; wrow_close) | walk1 | (dsimp only; walk1) | (leave1; walk_say "STEP leave1"; try dsimp only) | fail "no step"))
    · rename lo < hi' => hlt
      rename x < _ => hx
      rw [hmid] at hx
      refine' ksw_end (lo, _, (lo + hi').fdiv 2, _) (by assumption) (by assumption) (fun _ h9 => h9) trivial ?kk ?kr ?kp ?km
      case kk => kst_all
      case kr => (intro z h2 h3; simp only [List.forall_mem_cons, List.not_mem_nil, false_implies, implies_true, and_true, ne_eq] at h2; simp only [List.contains_cons, List.contains_nil, Bool.or_false, Bool.or_eq_false_iff, beq_eq_false_iff_ne, ne_eq] at h3; simp [kstB, h2, h3])
      case kp =>
        refine ⟨h0, ?_, ?_, ?_⟩
        · show 0 ≤ (lo + hi').fdiv 2; rw [Int.fdiv_eq_ediv_of_nonneg _ (by decide)]; omega
        · show (lo + hi').fdiv 2 ≤ _; rw [Int.fdiv_eq_ediv_of_nonneg _ (by decide)]; omega
        · show bisR ns x lo.toNat ((lo + hi').fdiv 2).toNat = _
          rw [hmid, ← bisR_lt ns x (by omega) hx, h3]
      case km => show ((lo + hi').fdiv 2).toNat - lo.toNat < hi'.toNat - lo.toNat; rw [hmid]; omega
    · rename lo < hi' => hlt
      rename ¬ x < _ => hx
      rw [hmid] at hx
      have hm1 : ((lo + hi').fdiv 2 + 1).toNat = (lo.toNat + hi'.toNat) / 2 + 1 := by rw [Int.fdiv_eq_ediv_of_nonneg _ (by decide)]; omega
      refine' ksw_end ((lo + hi').fdiv 2 + 1, _, hi', _) (by assumption) (by assumption) (fun _ h9 => h9) trivial ?kk ?kr ?kp ?km
      case kk => kst_all
      case kr => (intro z h2 h3; simp only [List.forall_mem_cons, List.not_mem_nil, false_implies, implies_true, and_true, ne_eq] at h2; simp only [List.contains_cons, List.contains_nil, Bool.or_false, Bool.or_eq_false_iff, beq_eq_false_iff_ne, ne_eq] at h3; simp [kstB, h2, h3])
      case kp =>
        refine ⟨?_, h1, h2, ?_⟩
        · show 0 ≤ (lo + hi').fdiv 2 + 1; rw [Int.fdiv_eq_ediv_of_nonneg _ (by decide)]; omega
        · show bisR ns x ((lo + hi').fdiv 2 + 1).toNat hi'.toNat = _
          rw [hm1, ← bisR_ge ns x (by omega) hx, h3]
      case km => show hi'.toNat - ((lo + hi').fdiv 2 + 1).toNat < hi'.toNat - lo.toNat; rw [hm1]; omega
    · rename ¬ lo < hi' => hlt
      refine hret _ _ _ _ (by assumption) (by assumption) ⟨rfl, ti, ?_⟩
      rw [← h3, bisR_end ns x (by omega), Int.toNat_of_nonneg h0]
theorem bis_ok4n (l : Addr) (vs : List Value) (ns : List Int) (nn : Nat) (x : Int) (tx : Tok) (tlo : Tok) (hm : (l, listOf vs.toArray nn) ∈ news) (hi : IntsAre vs ns) (hl : ns.length ≤ 1000)  :
  Con w loose mean mg mb 88 news [.ref l, .int x tx, .int 0 tlo, .none] 1 (fun v n' => n' = news ∧ ∃ tk, v = .int (bisR ns x 0 ns.length : Nat) tk) := by
  unfold Con
  k_fill
  intro dp un gd cn cs a ccd cl outer A₀ base h₀ L m s Q E B F X N T hk hd hu hret
  k_with_none
  w_strict (refine wpAny_call ?_; k_dflt (refine' code_def ?k1 ?k2 ?k3 ?k4 ?k5 ?kA ?kF ?kK ?k6 ?k7 ?k8 ?k9 ?kB ?_ ?c2 ?c3 ?c4 ?c5; (case kA => exact rfl); (case kF => exact rfl); (case kK => assumption); (case k1 => k_asm); (case k2 => k_asm); (case k3 => k_asm); (case k4 => k_asm); (case k5 => k_asm); (case k6 => k_is); (case k7 => k_is); (case k8 => ktr_room); (case k9 => (refine' kp_binds ?kx ?ke; (case kx => k_in); (case ke => exact fun _ => rfl))); (case c5 => decide); (case kB => exact locs rfl); (case c2 => exact rfl); (case c3 => exact rfl); (case c4 => exact rfl); k_whole; intro g' L' h' FG' F' N' B' X' T'; (try dsimp only); (try k_lift B'); (try k_fold)); repeat' ((fail_if_success (with_reducible show wpAny _ _ (exec (Stmt.While _ _ _ _) _) _ _ _)); first | (k_unfold; (try dsimp only)) | (k_end; wrow_close) | walk1 | (dsimp only; walk1) | (leave1; walk_say "STEP leave1"; try dsimp only) | fail "no step"))
  rename Fr _ _ _ _ => lF
  rename News _ _ _ _ => lN
  with_unfolding_all refine' ksw_while (σ := Int × Tok × Int × Tok) (fun _ => news) (fun c => [(Str.ofString "lo", Value.int c.1 c.2.1), (Str.ofString "hi", Value.int c.2.2.1 c.2.2.2)]) (fun _ => True) [Str.ofString "mid"]  (fun c => 0 ≤ c.1 ∧ 0 ≤ c.2.2.1 ∧ c.2.2.1 ≤ ns.length ∧ bisR ns x c.1.toNat c.2.2.1.toNat = bisR ns x 0 ns.length)  (fun c => c.2.2.1.toNat - c.1.toNat) (0, _, ns.length, _) ?cF ?cN trivial ?kk ?kp ?turn (hE := ?hE)
  case cF => exact lF
  case cN => exact lN
  case hE => passes_own
  case kk => kst_all
  case kp => (refine ⟨?_, ?_, ?_, rfl⟩ <;> (dsimp only; omega))
  case turn =>
    rintro ⟨lo, ti, hi', td⟩ u h tk - hI F N
    clear lF lN
    dsimp only at *
    obtain ⟨h0, h1, h2, h3⟩ := hI
    have hmid := fdiv2 h0 h1
    k_unmd
    k_fold
    w_strict (repeat' (first | (k_unfold; (try dsimp only)) | (k_end; wrow_close) | walk1 | (dsimp only; walk1) | (leave1; walk_say "STEP leave1"; try dsimp only) | fail "no step"))
    · rename lo < hi' => hlt
      rename x < _ => hx
      rw [hmid] at hx
      refine' ksw_end (lo, _, (lo + hi').fdiv 2, _) (by assumption) (by assumption) (fun _ h9 => h9) trivial ?kk ?kr ?kp ?km
      case kk => kst_all
      case kr => (intro z h2 h3; simp only [List.forall_mem_cons, List.not_mem_nil, false_implies, implies_true, and_true, ne_eq] at h2; simp only [List.contains_cons, List.contains_nil, Bool.or_false, Bool.or_eq_false_iff, beq_eq_false_iff_ne, ne_eq] at h3; simp [kstB, h2, h3])
      case kp =>
        refine ⟨h0, ?_, ?_, ?_⟩
        · show 0 ≤ (lo + hi').fdiv 2; rw [Int.fdiv_eq_ediv_of_nonneg _ (by decide)]; omega
        · show (lo + hi').fdiv 2 ≤ _; rw [Int.fdiv_eq_ediv_of_nonneg _ (by decide)]; omega
        · show bisR ns x lo.toNat ((lo + hi').fdiv 2).toNat = _
          rw [hmid, ← bisR_lt ns x (by omega) hx, h3]
      case km => show ((lo + hi').fdiv 2).toNat - lo.toNat < hi'.toNat - lo.toNat; rw [hmid]; omega
    · rename lo < hi' => hlt
      rename ¬ x < _ => hx
      rw [hmid] at hx
      have hm1 : ((lo + hi').fdiv 2 + 1).toNat = (lo.toNat + hi'.toNat) / 2 + 1 := by rw [Int.fdiv_eq_ediv_of_nonneg _ (by decide)]; omega
      refine' ksw_end ((lo + hi').fdiv 2 + 1, _, hi', _) (by assumption) (by assumption) (fun _ h9 => h9) trivial ?kk ?kr ?kp ?km
      case kk => kst_all
      case kr => (intro z h2 h3; simp only [List.forall_mem_cons, List.not_mem_nil, false_implies, implies_true, and_true, ne_eq] at h2; simp only [List.contains_cons, List.contains_nil, Bool.or_false, Bool.or_eq_false_iff, beq_eq_false_iff_ne, ne_eq] at h3; simp [kstB, h2, h3])
      case kp =>
        refine ⟨?_, h1, h2, ?_⟩
        · show 0 ≤ (lo + hi').fdiv 2 + 1; rw [Int.fdiv_eq_ediv_of_nonneg _ (by decide)]; omega
        · show bisR ns x ((lo + hi').fdiv 2 + 1).toNat hi'.toNat = _
          rw [hm1, ← bisR_ge ns x (by omega) hx, h3]
      case km => show hi'.toNat - ((lo + hi').fdiv 2 + 1).toNat < hi'.toNat - lo.toNat; rw [hm1]; omega
    · rename ¬ lo < hi' => hlt
      refine hret _ _ _ _ (by assumption) (by assumption) ⟨rfl, ti, ?_⟩
      rw [← h3, bisR_end ns x (by omega), Int.toNat_of_nonneg h0]
end
end
section
open PySem PySem.W PyProof.Rows


local macro_rules | `(tactic| walk_at "mine use 1") => `(tactic| (k_here; (with_reducible show wpAny _ _ (call (Value.ref 88) [Value.ref _, Value.int _ _, Value.int _ _, Value.none]) _ _ _); k_dflt ((refine' Con.use (bis_ok4n _ _ _ _ _ _ _ _ _ _ _ _ _ ?c1 ?c2 ?c3) ?k1 ?k2 ?k3 ?k4 ?k5 ?kK ?kd ?ku ?kr); (case k1 => k_asm); (case k2 => k_asm); (case k3 => k_asm); (case k4 => k_asm); (case k5 => k_asm); (case kK => first | exact rfl | assumption); (case kd => ktr_room); (case ku => ktr_units); (case c1 => k_mem); (case c2 => assumption); (case c3 => assumption); intro v9 n9 h9 tk9 F9 N9 P9; (obtain ⟨e9, t9, f9⟩ := P9); (replace e9 := e9.symm); (subst e9); (subst f9)); (try dsimp only); (try k_fold)))
local macro_rules | `(tactic| k_all) => `(tactic| assumption)
local macro_rules | `(tactic| walk_at "call builtin:list.insert") => `(tactic| (k_here; (with_reducible show wpAny _ _ (call (Value.builtin _) [Value.ref _, Value.int _ _, _]) _ _ _); k_dflt (refine' kl_insert ?F ?N ?f rfl ?U ?z ?_; (case F => k_asm); (case N => k_asm); (case U => k_upd); (case f => with_reducible assumption); (case z => with_reducible assumption)); intro h9 F9 N9; (try dsimp only); (try k_fold)))
section
variable (w : World) (loose : List Str) (mean : ExcName → Option Value) (mg mb : Str → Option Value) (news : List (Addr × Obj))
theorem ins_ok (l : Addr) (vs : List Value) (ns : List Int) (nn : Nat) (x : Int) (tx : Tok) (hi : IntsAre vs ns) (hl : ns.length ≤ 999) (hoff : ∀ p ∈ news, p.1 ≠ l) :
  Con w loose mean mg mb 79 ((l, listOf vs.toArray nn) :: news) [.ref l, .int x tx] 2 (fun v n' => v = .none ∧ ∃ vs' nn', n' = ((l, listOf vs'.toArray nn') :: news) ∧ IntsAre vs' (insAt ns (bisR ns x 0 ns.length) x)) := by
  have hl1 : ns.length ≤ 1000 := by omega
  have hb := bisR_le ns x (Nat.zero_le ns.length)
  have hfit : Builtin.List.listFitsIndex (bisR ns x 0 ns.length : Nat) = true := by
    unfold Builtin.List.listFitsIndex; simp; omega
  have hsz : vs.toArray.toList.length ≤ sizeLine := by
    rw [sizeLine_eq]; have := hi.length; simp; omega
  unfold Con
  k_fill
  intro dp un gd cn cs a ccd cl outer A₀ base h₀ L m s Q E B F X N T hk hd hu hret
  k_with_none
  w_strict (refine wpAny_call ?_; k_dflt (refine' code_def ?k1 ?k2 ?k3 ?k4 ?k5 ?kA ?kF ?kK ?k6 ?k7 ?k8 ?k9 ?kB ?_ ?c2 ?c3 ?c4 ?c5; (case kA => exact rfl); (case kF => exact rfl); (case kK => assumption); (case k1 => k_asm); (case k2 => k_asm); (case k3 => k_asm); (case k4 => k_asm); (case k5 => k_asm); (case k6 => k_is); (case k7 => k_is); (case k8 => ktr_room); (case k9 => (refine' kp_binds ?kx ?ke; (case kx => k_in); (case ke => exact fun _ => rfl))); (case c5 => decide); (case kB => exact locs rfl); (case c2 => exact rfl); (case c3 => exact rfl); (case c4 => exact rfl); k_whole; intro g' L' h' FG' F' N' B' X' T'; (try dsimp only); (try k_lift B'); (try k_fold)); repeat' (first | (k_unfold; (try dsimp only)) | (k_end; wrow_close) | walk1 | (dsimp only; walk1) | (leave1; walk_say "STEP leave1"; try dsimp only) | fail "no step"))
  refine hret _ _ _ _ (by assumption) (by assumption) ⟨rfl, _, _, rfl, ?_⟩
  exact ints_ins hi _ x tx hb
end
end
section
open PySem PySem.W PyProof.Rows


local macro_rules | `(tactic| k_all) => `(tactic| assumption)
local macro_rules | `(tactic| walk_at "setItem ref int") => `(tactic| (k_here; (with_reducible show wpAny _ _ (setItem (Value.ref _) (Value.int _ _) (Value.int _ _)) _ _ _); k_dflt (refine' ksa_set ?F ?N ?U ?i ?h0 ?h1 ?hf ?_; (case F => k_asm); (case N => k_asm); (case U => k_upd); (case i => assumption); (case h0 => omega); (case h1 => omega); (case hf => omega)); intros; (try dsimp only); (try k_fold)))
/-- a contract over a list that stood before -/
def ConS (w : World) (loose : List Str) (mean : ExcName → Option Value) (mg mb : Str → Option Value) (f : Addr) (news : List (Addr × Obj)) (ls : Addr) (svs : List Value) (vs : List Value) (D : Nat) (Post : Value → List (Addr × Obj) → Prop) : Prop :=
  ∀ (dp un : Nat) (gd : Option (List Code)) (cn : Str) (cs : Scope) (a : Addr) (ccd : Value) (cl : List (Str × Addr)) (outer : List Env) (A₀ : Around) (base h₀ : Heap) (L : Addr) (m : Str → Option Value) (s : Shared) (Q E : Value → Shared → Prop),
    Below A₀ base outer h₀ → Fr h₀ L s.heap m → (Mine.heapK w.params).In h₀ → News h₀ L s.heap news → Top viewK loose mean mg mb h₀ → cs.kind = .function → base.IsList ls svs.toArray →
    dp + D < recursionLimit → un + 8 * D < cLine → (∀ v news' h' tk', Fr h₀ L h' m → News h₀ L h' news' → Post v news' → Q v { s with heap := h', toks := tk' }) →
      wpAny (model PySem.Challenge.rw_ux0026_02.row.prog w) (ktrTop dp un gd cn cs L a ccd cl outer) (call (.ref f) vs) Q E s
section
variable (w : World) (loose : List Str) (mean : ExcName → Option Value) (mg mb : Str → Option Value) (news : List (Addr × Obj))
theorem cells_ok (ls : Addr) (svs : List Value) (sns : List Int) (l : Addr) (vs : List Value) (ns : List Int) (nn : Nat) (his : IntsAre svs sns) (hls : sns.length ≤ 63) (hi : IntsAre vs ns) (hl : ns.length ≤ 6) (hl0 : 0 < ns.length) (hoff : ∀ p ∈ news, p.1 ≠ l) :
  ConS w loose mean mg mb 243 ((l, listOf vs.toArray nn) :: news) ls svs [.ref ls, .ref l] 2 (fun v n' => v = .ref l ∧ ∃ vs' ns', n' = ((l, listOf vs'.toArray nn) :: news) ∧ IntsAre vs' ns' ∧ ns'.length = ns.length) := by
  unfold ConS
  k_fill
  intro dp un gd cn cs a ccd cl outer A₀ base h₀ L m s Q E B F X N T hk hS hd hu hret
  k_with_none
  w_strict (refine wpAny_call ?_; k_dflt cell_enter; repeat' ((fail_if_success (with_reducible show wpAny _ _ (pyIter _) _ _ _)); first | (k_unfold; (try dsimp only)) | (k_end; wrow_close) | walk1 | (dsimp only; walk1) | (leave1; walk_say "STEP leave1"; try dsimp only) | fail "no step"))
  rename Fr _ _ _ _ => lF
  rename News _ _ _ _ => lN
  rename IsRange _ _ _ _ _ _ _ _ => rgX
  with_unfolding_all refine' kst_range (σ := List Value × List Int) (n := sns.length) (fun c => (l, listOf c.1.toArray nn) :: news) (fun c => []) (fun c => IntsAre c.1 c.2 ∧ c.2.length = ns.length) []  (fun pre c => True) (vs, ns) (by rfl) rgX (small_one (by omega) (by omega) (by omega) (by omega)) (by first | exact rangeSize_nat _ _ | rfl | simp [Builtin.Range.rangeSize]) ?cF ?cN ⟨hi, rfl⟩ ?kk trivial ?turn ?done
  case cF => exact lF
  case cN => exact lN
  case kk => kst_all
  case done =>
    rintro ⟨vs', ns'⟩ u h tk' hI - F N
    dsimp only at *
    k_unmd
    try k_fold
    w_strict (repeat' (first | (k_unfold; (try dsimp only)) | (k_end; wrow_close) | walk1 | (dsimp only; walk1) | (leave1; walk_say "STEP leave1"; try dsimp only) | fail "no step"))
    exact hret _ _ _ _ (by assumption) (by assumption) ⟨rfl, vs', ns', rfl, hI⟩
  case turn =>
    rintro ⟨vs', ns'⟩ pre j tj u h tk' own hj hpre hoff2 hI - F N
    dsimp only at *
    obtain ⟨hI1, hI2⟩ := hI
    have hall : ∀ p ∈ news ++ own, p.1 ≠ l := fun p hp => (List.mem_append.mp hp).elim (hoff p) (hoff2.ne (List.mem_cons_self) p)
    have hj0 : 0 ≤ j.fmod (ns'.length : Int) := by rw [Int.fmod_eq_emod_of_nonneg _ (by omega)]; exact Int.emod_nonneg _ (by omega)
    have hj1 : j.fmod (ns'.length : Int) < ns'.length := by rw [Int.fmod_eq_emod_of_nonneg _ (by omega)]; exact Int.emod_lt_of_pos _ (by omega)
    have N2 : News _ _ h ((l, listOf vs'.toArray nn) :: (news ++ own)) := N
    clear N
    k_unmd
    k_fold
    w_strict (repeat' (first | (k_unfold; (try dsimp only)) | (k_end; wrow_close) | walk1 | (dsimp only; walk1) | (leave1; walk_say "STEP leave1"; try dsimp only) | fail "no step"))
    refine' kst_end (_, _) (by assumption) (by assumption) ?hn ?ho ?ha ⟨?hi9, ?hf⟩ ?kk ?kr trivial
    case hi9 => assumption
    case ha => rfl
    case hn => exact fun p hp => (List.mem_cons.mp hp).elim (fun e => e ▸ List.mem_cons_self) fun h9 => List.mem_cons_of_mem _ (List.mem_append.mpr (.inl h9))
    case ho => exact fun p hp => List.mem_cons_of_mem _ (List.mem_append.mpr (.inr hp))
    case hf => rw [← hI2]; assumption
    case kk => exact fun _ h9 => nomatch h9
    case kr => (intro z h1 h2 h3; simp only [List.forall_mem_cons, List.not_mem_nil, false_implies, implies_true, and_true, ne_eq] at h2; simp only [List.contains_cons, List.contains_nil, Bool.or_false, Bool.or_eq_false_iff, beq_eq_false_iff_ne, ne_eq] at h3; simp [kstB, h1, h2, h3])
end
end
section
open PySem PySem.W PyProof.Rows


theorem pat_name (w : World) (h : Heap) (X : (Mine.heapK w.params).In h) : PatAt h 98 nameCode :=
  ⟨⟨_, _, _, _, _, _, X _ _ (by rfl), rfl, rfl, rfl, rfl, rfl, rfl, X _ _ (by rfl), rfl, by decide +kernel⟩⟩
theorem pat_value (w : World) (h : Heap) (X : (Mine.heapK w.params).In h) : PatAt h 103 valueCode :=
  ⟨⟨_, _, _, _, _, _, X _ _ (by rfl), rfl, rfl, rfl, rfl, rfl, rfl, X _ _ (by rfl), rfl, by decide +kernel⟩⟩
/-- a call's contract, keywords and all -/
def ConK (w : World) (loose : List Str) (mean : ExcName → Option Value) (mg mb : Str → Option Value) (f : Addr) (news : List (Addr × Obj)) (vs : List Value) (kw : List (Str × Value)) (D : Nat) (Post : Value → List (Addr × Obj) → Prop) : Prop :=
  ∀ (dp un : Nat) (gd : Option (List Code)) (cn : Str) (cs : Scope) (a : Addr) (ccd : Value) (cl : List (Str × Addr)) (outer : List Env) (A₀ : Around) (base h₀ : Heap) (L : Addr) (m : Str → Option Value) (s : Shared) (Q E : Value → Shared → Prop),
    Below A₀ base outer h₀ → Fr h₀ L s.heap m → (Mine.heapK w.params).In h₀ → News h₀ L s.heap news → Top viewK loose mean mg mb h₀ → cs.kind = .function →
    dp + D < recursionLimit → un + 8 * D < cLine → (∀ v news' h' tk', Fr h₀ L h' m → News h₀ L h' news' → Post v news' → Q v { s with heap := h', toks := tk' }) →
      wpAny (model PySem.Challenge.rw_ux0026_02.row.prog w) (ktrTop dp un gd cn cs L a ccd cl outer) (call (.ref f) vs kw) Q E s
theorem ConK.use {w : World} {loose : List Str} {mean : ExcName → Option Value} {mg mb : Str → Option Value} {f : Addr} {news : List (Addr × Obj)} {vs : List Value} {kw : List (Str × Value)} {D : Nat} {Post : Value → List (Addr × Obj) → Prop}
    {dp un : Nat} {gd : Option (List Code)} {cn : Str} {cs : Scope} {a : Addr} {ccd : Value} {cl : List (Str × Addr)} {outer : List Env} {A₀ : Around} {base h₀ : Heap} {L : Addr} {m : Str → Option Value} {s : Shared} {Q E : Value → Shared → Prop}
    (c : ConK w loose mean mg mb f news vs kw D Post) (B : Below A₀ base outer h₀) (F : Fr h₀ L s.heap m) (X : (Mine.heapK w.params).In h₀) (N : News h₀ L s.heap news) (T : Top viewK loose mean mg mb h₀) (hk : cs.kind = .function)
    (hd : dp + D < recursionLimit) (hu : un + 8 * D < cLine) (ret : ∀ v news' h' tk', Fr h₀ L h' m → News h₀ L h' news' → Post v news' → Q v { s with heap := h', toks := tk' }) :
    wpAny (model PySem.Challenge.rw_ux0026_02.row.prog w) (ktrTop dp un gd cn cs L a ccd cl outer) (call (.ref f) vs kw) Q E s := c _ _ _ _ _ _ _ _ _ _ _ _ _ _ _ _ _ B F X N T hk hd hu ret
local macro_rules | `(tactic| walk_at "getMethod ref") => `(tactic| (k_here; (with_reducible show wpAny _ _ (getMethod (Value.ref _) (Str.ofString "search") _) _ _ _); k_dflt (first
  | (refine' method_search (pat_name _ _ ?p) ?_; (case p => k_in))
  | (refine' method_search (pat_value _ _ ?p) ?_; (case p => k_in)))))
local macro_rules | `(tactic| walk_at "call builtin:re.Pattern.search") => `(tactic| (k_here; k_dflt (first
  | (refine' search_name (pat_name _ _ ?p) ?c1 ?c2 ?_; (case p => k_in); (case c1 => assumption); (case c2 => assumption))
  | (refine' search_value (pat_value _ _ ?p) ?c1 ?c2 ?_; (case p => k_in); (case c1 => assumption); (case c2 => assumption)))))
section
variable (w : World) (loose : List Str) (mean : ExcName → Option Value) (mg mb : Str → Option Value) (news : List (Addr × Obj))
theorem conv_ok (sv : Value) (x : Str) (t : Tok) (b : Bool) (hx : x.length ≤ 1000000) (hc : Clean x.cps) :
  ConK w loose mean mg mb 133 news [sv, .str x t] [(Str.ofString "name", .bool b)] 1 (fun v n' => n' = news ∧ v = .str x t) := by
  unfold ConK
  k_fill
  intro dp un gd cn cs a ccd cl outer A₀ base h₀ L m s Q E B F X N T hk hd hu hret
  k_with_none
  cases b
  all_goals w_strict (refine wpAny_call ?_; k_dflt (refine' code_def ?k1 ?k2 ?k3 ?k4 ?k5 ?kA ?kF ?kK ?k6 ?k7 ?k8 ?k9 ?kB ?_ ?c2 ?c3 ?c4 ?c5; (case kA => exact rfl); (case kF => exact rfl); (case kK => assumption); (case k1 => k_asm); (case k2 => k_asm); (case k3 => k_asm); (case k4 => k_asm); (case k5 => k_asm); (case k6 => k_is); (case k7 => k_is); (case k8 => ktr_room); (case k9 => (refine' kp_binds ?kx ?ke; (case kx => k_in); (case ke => exact fun _ => rfl))); (case c5 => decide); (case kB => exact locs rfl); (case c2 => exact rfl); (case c3 => exact rfl); (case c4 => exact rfl); k_whole; intro g' L' h' FG' F' N' B' X' T'; (try dsimp only); (try k_lift B'); (try k_fold)); repeat' (first | (k_unfold; (try dsimp only)) | (k_end; wrow_close) | walk1 | (dsimp only; walk1) | (leave1; walk_say "STEP leave1"; try dsimp only) | fail "no step"))
  all_goals exact hret _ _ _ _ (by assumption) (by assumption) ⟨rfl, rfl⟩
end
end
section
open PySem PySem.W PyProof.Rows


section
variable (w : World) (loose : List Str) (mean : ExcName → Option Value) (mg mb : Str → Option Value) (news : List (Addr × Obj))
theorem keys_ok (x dx : Addr) (hs : Int) (tk : Tok) (nd : Nat) (lp : Addr) (vs : List Value) (nn : Nat) (ps : List PT) (H : HdAt 232 news x dx hs tk nd lp vs nn ps) (hl : ps.length ≤ 1000) :
  Con w loose mean mg mb 184 news [.ref x] 2 (fun v n' => ∃ l vs', v = .ref l ∧ n' = (l, listOf vs'.toArray vs'.length) :: news ∧ (∀ p ∈ news, p.1 ≠ l) ∧ DatAll news vs' (ps.map fun p => Dat.str (tx p.1))) := by
  obtain ⟨hm1, hm2, hm3, hps⟩ := H
  have hlen : vs.length = ps.length := by rw [hps.length, List.length_map]
  unfold Con
  k_fill
  intro dp un gd cn cs a ccd cl outer A₀ base h₀ L m s Q E B F X N T hk hd hu hret
  k_with_none
  w_strict (refine wpAny_call ?_; k_dflt cell_enter; repeat' ((fail_if_success (with_reducible show wpAny _ _ (eval (Expr.ListComp _ _ _ _) _) _ _ _)); first | (k_unfold; (try dsimp only)) | (k_end; wrow_close) | walk1 | (dsimp only; walk1) | (leave1; walk_say "STEP leave1"; try dsimp only) | fail "no step"))
  refine PyProof.Rows.LCp.ListComp_P (F₀ := by k_asm) (by with_unfolding_all rfl) (by decide) (by rfl) (by decide) (by rfl) (by rfl) (by decide) ?_
  w_strict (repeat' ((fail_if_success (with_reducible show PyProof.Rows.LCp.SrcLP _ _ _ _ _ _ _ _ _ _ _ _ _ _ _)); first | (k_unfold; (try dsimp only)) | (k_end; wrow_close) | walk1 | (dsimp only; walk1) | (leave1; walk_say "STEP leave1"; try dsimp only) | fail "no step"))
  refine PyProof.Rows.LCp.SrcLP.ledger (by rfl) (by k_asm) (by k_asm) hm3 (by rw [List.size_toArray, sizeLine_eq, hlen]; omega) ?_
  intro g2
  refine compP_J (fun i ys n' => n' = news ∧ DatAll news ys ((ps.take i).map fun p => Dat.str (tx p.1))) ?turn ?fin vs.toArray.size 0 [] news (Nat.zero_add _) ⟨rfl, .nil⟩
  case fin =>
    rintro ys n' ⟨rfl, hys⟩
    rw [show vs.toArray.size = ps.length from by simp [hlen], List.take_length] at hys
    unfold PyProof.Rows.LCg.FinE
    intro D h' tk' F' N' o1
    k_unmd
    try k_fold
    try dsimp only
    w_strict (repeat' (first | (k_unfold; (try dsimp only)) | (k_end; wrow_close) | walk1 | (dsimp only; walk1) | (leave1; walk_say "STEP leave1"; try dsimp only) | fail "no step"))
    exact hret _ _ _ _ (by assumption) (by assumption) ⟨D, ys, rfl, rfl, off1_mem o1, hys⟩
  case turn =>
    rintro i ys n' hi ⟨rfl, hys⟩ v hv
    have hi' : i < ps.length := by simpa [hlen] using hi
    obtain ⟨v2, hv2, hd⟩ := hps.get (k := i) (by rw [List.length_map]; exact hi')
    have hv' : vs[i]? = some v := by simpa using hv
    rw [hv'] at hv2
    cases hv2
    rw [List.getElem_map] at hd
    obtain ⟨T, t1, t2, nT, rfl, hT⟩ := pair_at hd
    refine ⟨T, _, _, _, nT, rfl, hT, rfl, rfl, ?_⟩
    intro I oI C oC D m₂ h tk' E' hC hx1 hx2 F' N' off ne
    k_unmd
    try k_fold
    try dsimp only
    w_strict (repeat' (first | (k_unfold; (try dsimp only)) | (k_end; wrow_close) | walk1 | (dsimp only; walk1) | (leave1; walk_say "STEP leave1"; try dsimp only) | fail "no step"))
    refine compEnd_same (by assumption) (by assumption) off (.inr ⟨_, hm3, rfl, _, rfl⟩) ⟨rfl, ?_⟩
    rw [List.take_add_one, List.getElem?_eq_getElem hi', List.map_append]
    exact hys.append (.one (.str _ _))
end
end
section
local macro_rules | `(tactic| walk_at "pad") => `(tactic| fail)
open PySem PySem.W PyProof.Rows


local macro_rules | `(tactic| k_all) => `(tactic| assumption)
section
variable (w : World) (loose : List Str) (mean : ExcName → Option Value) (mg mb : Str → Option Value) (news : List (Addr × Obj))
theorem choices_ok (ln : Addr) (nvs : List Value) (nnn : Nat) (ns : List Int) (lm : Addr) (mvs : List Value) (mnn : Nat) (ms : List Int) (hmn : (ln, listOf nvs.toArray nnn) ∈ news) (hmm : (lm, listOf mvs.toArray mnn) ∈ news) (hin : IntsAre nvs ns) (him : IntsAre mvs ms) (hln : ns.length = 4) (hlm : ms.length = 4) (hlm5 : ∀ n ∈ ms, 0 ≤ n ∧ n < 5) (hln6 : ∀ n ∈ ns, -1000000 ≤ n ∧ n ≤ 1000000) :
  Con w loose mean mg mb 250 news [.ref ln, .ref lm] 2
    (fun v n' => ∃ lr vs nn tl, v = .ref lr ∧ n' = (lr, listOf vs.toArray nn) :: (news ++ tl) ∧ (∀ p ∈ news, p.1 ≠ lr) ∧ OwnOff tl (lr :: news.map (·.1)) ∧ DatAll (news ++ tl) vs ((List.range 16).map (chI ms ns))) := by
  unfold Con
  k_fill
  intro dp un gd cn cs a ccd cl outer A₀ base h₀ L m s Q E B F X N T hk hd hu hret
  k_with_none
  w_strict (refine wpAny_call ?_; k_dflt cell_enter; repeat' ((fail_if_success (with_reducible show wpAny _ _ (pyIter _) _ _ _)); first | (k_unfold; (try dsimp only)) | (k_end; wrow_close) | walk1 | (dsimp only; walk1) | (leave1; walk_say "STEP leave1"; try dsimp only) | fail "no step"))
  rename_i lr h2 l1 h1 F1 N1 hh tk1 t1 u1 v1 rgX lF lN lK
  with_unfolding_all refine' kd_range (σ := List Value × Nat) (n := 16) (fun c => [(lr, listOf c.1.toArray c.2)]) news (fun _ => []) (fun led c => DatAll led c.1 ((List.range c.1.length).map (chI ms ns))) [Str.ofString "count", Str.ofString "total", Str.ofString "place"] (fun pre c => c.1.length = pre.length) (lr :: news.map (·.1)) ([], 0)  (by rfl) rgX (by decide) (by rfl) ?cF ?cN ?hn (fun _ => rfl) .nil (fun _ h9 => nomatch h9) rfl ?turn ?done
  case cF => exact lF
  case cN => exact lN
  case hn => exact fun p hp => by simpa using hp
  case done =>
    rintro ⟨vs, nn⟩ tl2 u h tk' hoff hI hP F N
    dsimp only at *
    k_unmd
    try k_fold
    w_strict (repeat' (first | (k_unfold; (try dsimp only)) | (k_end; wrow_close) | walk1 | (dsimp only; walk1) | (leave1; walk_say "STEP leave1"; try dsimp only) | fail "no step"))
    rw [rangeKs_length] at hP
    rw [hP] at hI
    exact hret _ _ _ _ (by assumption) (by assumption) ⟨lr, vs, nn, tl2, rfl, rfl, fun p hp => Nat.ne_of_lt (l1 p hp), hoff, hI⟩
  case turn =>
    rintro ⟨vs, nn⟩ tl2 pre j tj u h tk' own hj hpre hsep hoff hI hP F N
    dsimp only at *
    clear F1 N1 lF lN lK rgX
    have hj' : j = (pre.length : Int) := by omega
    subst hj'
    k_unmd
    k_fold
    w_strict (repeat' ((fail_if_success (with_reducible show wpAny _ _ (pyIter _) _ _ _)); first | (k_unfold; (try dsimp only)) | (k_end; wrow_close) | walk1 | (dsimp only; walk1) | (leave1; walk_say "STEP leave1"; try dsimp only) | fail "no step"))
    rename Fr _ _ _ _ => FA
    rename News _ _ _ _ => NA
    rename IsRange _ _ _ _ _ _ _ _ => rgA
    have hpre16 : pre.length < 16 := by omega
    with_unfolding_all refine' range_F (n := 4) (fun p (c : (Int × Tok) × (Int × Tok)) => c.1.1 = sumS ms pre.length p ∧ c.2.1 = sumS ns pre.length p ∧ 0 ≤ c.1.1 ∧ c.1.1 ≤ 5 * p ∧ -1000000 * p ≤ c.2.1 ∧ c.2.1 ≤ 1000000 * p) (fun c => [(Str.ofString "count", Value.int c.1.1 c.1.2), (Str.ofString "total", Value.int c.2.1 c.2.2)]) [] ((0, _), (0, _))  (by rfl) rgA (by decide) (by rfl) FA NA ?hk2 ?hj2 ?turn2 ?done2
    case hk2 => kst_all
    case hj2 => exact ⟨rfl, rfl, by show (0:Int) ≤ 0; decide, by show (0:Int) ≤ 5 * 0; decide, by show -1000000 * (0:Int) ≤ 0; decide, by show (0 : Int) ≤ 1000000 * 0; decide⟩
    case turn2 =>
      rintro p ⟨⟨cc, tc⟩, ⟨tt, t2⟩⟩ tp u2 h9 tk9 own2 hp hown2 ⟨hc1, hc2, hc3, hc4, hc5, hc6⟩ F2 N2
      dsimp only at *
      clear FA NA rgA
      have e0 : (0 + (p : Int) * 1).toNat = p := by omega
      have hm9 := getD_mem (l := ms) (i := p) (by omega)
      have hn9 := getD_mem (l := ns) (i := p) (by omega)
      have hm8 := hlm5 _ hm9
      have hn8 := hln6 _ hn9
      have hsel := sel_of pre.length p
      k_unmd
      k_fold
      w_strict (repeat' (first | (k_unfold; (try dsimp only)) | (k_end; wrow_close) | walk1 | (dsimp only; walk1) | (leave1; walk_say "STEP leave1"; try dsimp only) | fail "no step"))
      · rename (_ : Int) = 1 => hq
        rw [hsel] at hq
        rename Fr _ _ _ _ => FB
        rename News _ _ _ _ => NB
        rw [e0] at FB
        have e1 := sumS_on (xs := ms) (ch := pre.length) (p := p) (by omega)
        have e2 := sumS_on (xs := ns) (ch := pre.length) (p := p) (by omega)
        refine' rng_same ((cc + ms.getD p 0, _), (tt + ns.getD p 0, _)) FB NB hown2 ?hk3 ?hr3 ?hj3
        case hk3 => kst_all
        case hr3 => (intro z h1 h2 h3; simp only [List.forall_mem_cons, List.not_mem_nil, false_implies, implies_true, and_true, ne_eq] at h2; simp only [List.contains_cons, List.contains_nil, Bool.or_false, Bool.or_eq_false_iff, beq_eq_false_iff_ne, ne_eq] at h3; simp [kstB, h1, h2, h3])
        case hj3 => exact ⟨by rw [e1, ← hc1], by rw [e2, ← hc2], by show 0 ≤ cc + _; omega, by show cc + _ ≤ _; omega, by show _ ≤ tt + _; omega, by show tt + _ ≤ _; omega⟩
      · rename ¬ (_ : Int) = 1 => hq
        rw [hsel] at hq
        have e1 := sumS_off (xs := ms) (ch := pre.length) (p := p) (by omega)
        have e2 := sumS_off (xs := ns) (ch := pre.length) (p := p) (by omega)
        refine' rng_same ((cc, _), (tt, _)) (by assumption) (by assumption) hown2 ?hk3 ?hr3 ?hj3
        case hk3 => kst_all
        case hr3 => (intro z h1 h2 h3; simp only [List.forall_mem_cons, List.not_mem_nil, false_implies, implies_true, and_true, ne_eq] at h2; simp only [List.contains_cons, List.contains_nil, Bool.or_false, Bool.or_eq_false_iff, beq_eq_false_iff_ne, ne_eq] at h3; simp [kstB, h1, h2, h3])
        case hj3 => exact ⟨by rw [e1, ← hc1], by rw [e2, ← hc2], by show 0 ≤ cc; omega, by show cc ≤ _; omega, by show _ ≤ tt; omega, by show tt ≤ _; omega⟩
    case done2 =>
      rintro ⟨⟨cc, tc⟩, ⟨tt, t2⟩⟩ u2 h9 tk9 ⟨hc1, hc2, hc3, hc4, hc5, hc6⟩ F2 N2
      dsimp only at *
      clear FA NA rgA
      k_unmd
      try k_fold
      w_strict (repeat' (first | (k_unfold; (try dsimp only)) | (k_end; wrow_close) | walk1 | (dsimp only; walk1) | (leave1; walk_say "STEP leave1"; try dsimp only) | fail "no step"))
      rename ∀ p : Addr × Obj, p ∈ _ → _ => lD
      rename News _ _ _ _ => nT
      have hne : @LT.lt Nat _ lr _ := lD _ List.mem_cons_self
      have hoffR : ∀ p ∈ news ++ (tl2 ++ own), p.1 ≠ lr := fun p hp => (List.mem_append.mp hp).elim (fun h9 => Nat.ne_of_lt (l1 p h9)) (hoff.ne List.mem_cons_self p)
      simp only [List.cons_append, List.nil_append] at nT
      try dsimp only at hne
      w_strict (repeat' (first | (k_unfold; (try dsimp only)) | (k_end; wrow_close) | walk1 | (dsimp only; walk1) | (leave1; walk_say "STEP leave1"; try dsimp only) | fail "no step"))
      rename News _ _ _ _ => nE
      rename_i T9 _ _ _
      have hne2 : @LT.lt Nat _ lr T9 := hne
      have lD2 : ∀ p ∈ news ++ (tl2 ++ own), @LT.lt Nat _ p.1 T9 := fun p hp => lD p (List.mem_cons_of_mem _ hp)
      rw [show vs.toArray.push (Value.ref T9) = (vs ++ [Value.ref T9]).toArray from by simp] at nE
      refine' kd_end (vs ++ [.ref T9], nn + 1) [(T9, ({ cls := .type "tuple", data := .seq [Value.int cc tc, Value.int tt t2].toArray 0 } : Obj))] hsep (by assumption) nE ?hn ?ho rfl ?hb ?hw (fun _ h9 => nomatch h9) ?hr ?hf ?hp
      case hn =>
        intro p hp
        simp only [List.mem_append, List.mem_cons, List.not_mem_nil, or_false] at hp ⊢
        rcases hp with h1 | h1 | h1 | h1 <;> simp [h1]
      case ho =>
        intro p hp
        simp only [List.mem_append, List.mem_cons]
        simp [hp]
      case hb =>
        intro q hq b hb
        rw [List.mem_singleton.mp hq]
        rcases List.mem_cons.mp hb with rfl | hb
        · exact Nat.ne_of_lt hne2
        · obtain ⟨p, hp, rfl⟩ := List.mem_map.mp hb
          exact Nat.ne_of_lt (lD2 p (List.mem_append.mpr (.inl hp)))
      case hw =>
        intro q hq p hp
        rw [List.mem_singleton.mp hq]
        exact Nat.ne_of_lt (lD2 p (List.mem_append.mpr (.inr (List.mem_append.mpr (.inr hp)))))
      case hr => (intro z h1 h2 h3; simp only [List.forall_mem_cons, List.not_mem_nil, false_implies, implies_true, and_true, ne_eq] at h2; simp only [List.contains_cons, List.contains_nil, Bool.or_false, Bool.or_eq_false_iff, beq_eq_false_iff_ne, ne_eq] at h3; simp [kstB, h1, h2, h3])
      case hf =>
        dsimp only
        rw [List.length_append, show [Value.ref T9].length = 1 from rfl, List.range_succ, List.map_append]
        refine DatAll.append (DatAll.mono kd_sub hI) (.one ?_)
        show DatIn _ _ (chI ms ns vs.length)
        rw [hP]
        unfold chI
        rw [← hc1, ← hc2]
        exact .tuple (List.mem_append.mpr (.inr List.mem_cons_self)) (.cons (.int _ _) (.one (.int _ _)))
      case hp =>
        dsimp only
        rw [List.length_append, List.length_append, hP]; rfl
end
end
section
open PySem PySem.W PyProof.Rows


local macro_rules | `(tactic| walk_at "mine conv") => `(tactic| (k_here; (with_reducible show wpAny _ _ (call (Value.ref 133) [_, Value.str _ _] _) _ _ _); k_dflt (refine' ConK.use (conv_ok _ _ _ _ _ _ _ _ _ _ ?c1 ?c2) ?k1 ?k2 ?k3 ?k4 ?k5 ?kK ?kd ?ku ?kr); (case k1 => k_asm); (case k2 => k_asm); (case k3 => k_asm); (case k4 => k_asm); (case k5 => k_asm); (case kK => first | exact rfl | assumption); (case kd => ktr_room); (case ku => ktr_units); (case c1 => assumption); (case c2 => assumption); intro v9 n9 h9 tk9 F9 N9 P9; (obtain ⟨e9, f9⟩ := P9); (replace e9 := e9.symm); (subst e9); (subst f9); (try dsimp only); (try k_fold)))
local macro_rules | `(tactic| walk_at "call ref") => `(tactic| walk_at "mine conv")
local macro_rules | `(tactic| k_all) => `(tactic| assumption)
theorem join_one (a y : Str) : Txt.join a [y] = y := rfl
section
variable (w : World) (loose : List Str) (mean : ExcName → Option Value) (mg mb : Str → Option Value) (news : List (Addr × Obj))
theorem addh_ok (x dx : Addr) (hs : Int) (tk : Tok) (nd : Nat) (lp : Addr) (vs : List Value) (nn : Nat) (ps : List PT) (K Y : Str) (k y : List Nat) (t u : Tok) (hK : K = tx k) (hY : Y = tx y)
  (hm1 : (x, instObj 232 dx) ∈ news) (hm2 : (dx, dictOf [⟨hs, .str (Str.ofString "_headers") tk, .ref lp⟩] nd) ∈ news) (base' : List (Addr × Obj)) (hsub : ∀ p ∈ base', p ∈ news) (hps : DatAll base' vs (ps.map pairD)) (hoff : ∀ p ∈ news, p.1 ≠ lp)
  (hl : ps.length ≤ 1000) (ok : OkT k) (oky : OkT y) :
  Con w loose mean mg mb 229 ((lp, listOf vs.toArray nn) :: news) [.ref x, .str K t, .str Y u] 3 (fun v n' => v = .none ∧ ∃ nn' T oT, n' = (lp, listOf (vs ++ [Value.ref T]).toArray nn') :: (T, oT) :: news ∧ T ≠ lp ∧ (∀ p ∈ news, p.1 ≠ T) ∧ DatIn ((T, oT) :: base') (Value.ref T) (pairD (k, y))) := by
  have hlen : vs.length = ps.length := by rw [hps.length, List.length_map]
  have hc1 : K.length ≤ 1000000 := by rw [hK, tx_len]; have := ok.len; omega
  have hc2 : Clean K.cps := by
    intro c hc
    rw [hK, tx_cps] at hc
    have := ok.cs c hc
    omega
  have hc3 : Y.length ≤ 1000000 := by rw [hY, tx_len]; have := oky.len; omega
  have hc4 : Clean Y.cps := by
    intro c hc
    rw [hY, tx_cps] at hc
    have := oky.cs c hc
    omega
  unfold Con
  k_fill
  intro dp un gd cn cs a ccd cl outer A₀ base h₀ L m s Q E B F X N T hk hd hu hret
  k_with_none
  w_strict (refine wpAny_call ?_; k_dflt (refine' kp_more ?k1 ?k2 ?k3 ?k4 ?k5 ?kA ?kF ?kK ?k6 ?k7 ?k8 ?kX ?kM ?kN ?kD ?kR ?kP ?kT ?kB ?_ ?c2 ?c3 ?c4 ?c5; (case kA => exact rfl); (case kF => exact rfl); (case kK => assumption); (case k1 => k_asm); (case k2 => k_asm); (case k3 => k_asm); (case k4 => k_asm); (case k5 => k_asm); (case k6 => k_is); (case k7 => k_is); (case k8 => ktr_room); (case kX => kp_lit); (case kM => exact rfl); (case kN => exact rfl); (case kD => kp_flats); (case kR => exact rfl); (case kP => exact rfl); (case kT => exact fun _ => rfl); (case kB => exact fun _ => locs rfl); (case c5 => decide); (case c2 => exact rfl); (case c3 => exact rfl); (case c4 => exact rfl); k_whole; intro D' o' g' L' h' tk' l1 lo' hs' fs' FG' F' N' B' X' T'; (try k_lt l1); (try dsimp only); (try k_lift B'); (try k_fold)); repeat' (first | (k_unfold; (try dsimp only)) | (k_end; wrow_close) | walk1 | (dsimp only; walk1) | (leave1; walk_say "STEP leave1"; try dsimp only) | fail "no step"))
  rename _ ∧ _ ∧ _ ∧ _ ∧ AllLt _ _ => l9
  obtain ⟨_, _, _, l9a, l9b⟩ := l9
  rename News _ _ _ _ => lN
  rename Fr _ _ _ _ => lF
  rw [join_one] at lN
  have lM := cb_drop (news := _ :: (lp, listOf vs.toArray nn) :: news) lN (by
    intro p hp
    rcases List.mem_cons.mp hp with rfl | hp
    · exact List.Mem.head _
    rcases List.mem_cons.mp hp with rfl | hp
    · exact List.Mem.tail _ (List.Mem.tail _ (List.Mem.tail _ (List.Mem.tail _ (List.Mem.head _))))
    exact List.Mem.tail _ (List.Mem.tail _ (List.Mem.tail _ (List.Mem.tail _ (List.Mem.tail _ hp)))))
  clear lN
  w_strict (repeat' (first | (k_unfold; (try dsimp only)) | (k_end; wrow_close) | walk1 | (dsimp only; walk1) | (leave1; walk_say "STEP leave1"; try dsimp only) | fail "no step"))
  rename News h₀ L _ _ => NN
  rename_i t9 _ T9 _ _ _ _ _ _ _ _ _ _
  have e9 : vs.toArray.push (Value.ref T9) = (vs ++ [Value.ref T9]).toArray := by simp
  rw [e9] at NN
  subst hK hY
  refine hret _ _ _ _ (by assumption) (cb_drop NN ?hp) ⟨rfl, nn + 1, T9, { cls := .type "tuple", data := .seq [Value.str (tx k) t, Value.str (tx y) t9].toArray 0 }, rfl, ?_, ?_, ?_⟩
  case hp =>
    intro p hp
    rcases List.mem_cons.mp hp with rfl | hp
    · exact List.Mem.tail _ (List.Mem.head _)
    rcases List.mem_cons.mp hp with rfl | hp
    · exact List.Mem.head _
    exact List.Mem.tail _ (List.Mem.tail _ hp)
  · exact Nat.ne_of_gt l9a
  · exact allLt_ne l9b
  · exact .tuple (List.Mem.head _) (.cons (.str _ _) (.one (.str _ _)))
end
end
section
local macro_rules | `(tactic| walk_at "pad") => `(tactic| fail)
open PySem PySem.W PyProof.Rows


local macro_rules | `(tactic| ktr_units) => `(tactic| (have hcL9 := cLine_is; (simp only [units_in1, units_deeper, units_make, Around.mark_units, units_caller]); (try dsimp only [ktrTop] at *); omega))
local macro_rules | `(tactic| walk_at "mine conv") => `(tactic| (k_here; (with_reducible show wpAny _ _ (call (Value.ref 133) [_, Value.str _ _] _) _ _ _); k_dflt (refine' ConK.use (conv_ok _ _ _ _ _ _ _ _ _ _ ?c1 ?c2) ?k1 ?k2 ?k3 ?k4 ?k5 ?kK ?kd ?ku ?kr); (case k1 => k_asm); (case k2 => k_asm); (case k3 => k_asm); (case k4 => k_asm); (case k5 => k_asm); (case kK => first | exact rfl | assumption); (case kd => ktr_room); (case ku => ktr_units); (case c1 => assumption); (case c2 => assumption); intro v9 n9 h9 tk9 F9 N9 P9; (obtain ⟨e9, f9⟩ := P9); (replace e9 := e9.symm); (subst e9); (subst f9); (try dsimp only); (try k_fold)))
local macro_rules | `(tactic| walk_at "call ref") => `(tactic| walk_at "mine conv")
section
variable (w : World) (loose : List Str) (mean : ExcName → Option Value) (mg mb : Str → Option Value) (news : List (Addr × Obj))
theorem hdr0_ok :
  Con w loose mean mg mb 232 news [] 3 (fun v n' => ∃ x dx lp hs tk nd, v = .ref x ∧ n' = (x, instObj 232 dx) :: (dx, dictOf [⟨hs, .str (Str.ofString "_headers") tk, .ref lp⟩] nd) :: (lp, listOf #[] 0) :: news ∧ (∀ p ∈ news, p.1 ≠ x ∧ p.1 ≠ dx ∧ p.1 ≠ lp) ∧ (@Ne Nat x dx) ∧ (@Ne Nat x lp) ∧ (@Ne Nat dx lp)) := by
  unfold Con
  k_fill
  intro dp un gd cn cs a ccd cl outer A₀ base h₀ L m s Q E B F X N T hk hd hu hret
  k_with_none
  w_strict ((k_dflt (refine' call_cls ?k1 ?k2 ?k3 ?k4 ?k5 ?k6 ?_; (case k1 => k_asm); (case k2 => k_asm); (case k3 => k_asm); (case k4 => k_is); (case k5 => k_is); (case k6 => k_is); k_whole; intro x' d' h' F' N' l1 l2; (try k_lt l1); (try k_lt2 l2); (try k_sweep))); k_dflt (refine' code_def ?k1 ?k2 ?k3 ?k4 ?k5 ?kA ?kF ?kK ?k6 ?k7 ?k8 ?k9 ?kB ?_ ?c2 ?c3 ?c4 ?c5; (case kA => exact rfl); (case kF => exact rfl); (case kK => assumption); (case k1 => k_asm); (case k2 => k_asm); (case k3 => k_asm); (case k4 => k_asm); (case k5 => k_asm); (case k6 => k_is); (case k7 => k_is); (case k8 => ktr_room); (case k9 => exact binds_K (by k_in) rfl (by k_is) rfl rfl rfl); (case c5 => decide); (case kB => exact locs rfl); (case c2 => exact rfl); (case c3 => exact rfl); (case c4 => exact rfl); k_whole; intro g' L' h' FG' F' N' B' X' T'; (try dsimp only); (try k_lift B'); (try k_fold)); repeat' ((fail_if_success (with_reducible show wpAny _ _ (pyIter _) _ _ _)); first | (k_unfold; (try dsimp only)) | (k_end; wrow_close) | walk1 | (dsimp only; walk1) | (leave1; walk_say "STEP leave1"; try dsimp only) | fail "no step"))
  rename _ ∧ _ ∧ AllLt _ _ => l9
  rename Fr _ _ _ _ => lF
  rename News _ _ _ _ => lN
  rename_i lp _ _ _ _
  with_unfolding_all refine' iter_same (vs := []) [Str.ofString "k", Str.ofString "v"] (fun i => True) (by rfl) lF lN (List.Mem.head _) trivial ?turn ?done
  case turn => exact fun i v u h tk' I oI hv => nomatch hv
  case done =>
    intro u h tk' hP F N
    clear lF lN
    dsimp only at *
    k_unmd
    try k_fold
    w_strict (repeat' (first | (k_unfold; (try dsimp only)) | (k_end; wrow_close) | walk1 | (dsimp only; walk1) | (leave1; walk_say "STEP leave1"; try dsimp only) | fail "no step"))
    obtain ⟨m1, m2, m3⟩ := l9
    have m4 := allLt_ne m3
    have hx1 : ∀ p ∈ news, @LT.lt Nat _ p.1 d' := l1
    have hx2 : @LT.lt Nat _ d' x' := l2
    have hx3 : @LT.lt Nat _ x' lp := m1
    exact hret _ _ _ _ (by assumption) (cb_drop (by assumption) (fun p hp => by
      rcases List.mem_cons.mp hp with rfl | hp
      · exact List.Mem.tail _ (List.Mem.head _)
      rcases List.mem_cons.mp hp with rfl | hp
      · exact List.Mem.tail _ (List.Mem.tail _ (List.Mem.head _))
      rcases List.mem_cons.mp hp with rfl | hp
      · exact List.Mem.head _
      exact List.Mem.tail _ (List.Mem.tail _ (List.Mem.tail _ hp)))) ⟨x', d', lp, _, _, _, rfl, rfl, fun p hp => ⟨Nat.ne_of_lt (Nat.lt_trans (hx1 p hp) hx2), Nat.ne_of_lt (hx1 p hp), m4 p hp⟩, Nat.ne_of_gt hx2, Nat.ne_of_lt hx3, Nat.ne_of_lt (Nat.lt_trans hx2 hx3)⟩
end
end
section
open PySem PySem.W PyProof.Rows


local macro_rules | `(tactic| walk_at "mine use 1") => `(tactic| (k_here; (with_reducible show wpAny _ _ (call (Value.ref 232) _) _ _ _); k_dflt ((refine' Con.use (hdr0_ok _ _ _ _ _ _) ?k1 ?k2 ?k3 ?k4 ?k5 ?kK ?kd ?ku ?kr); (case k1 => k_asm); (case k2 => k_asm); (case k3 => k_asm); (case k4 => k_asm); (case k5 => k_asm); (case kK => first | exact rfl | assumption); (case kd => ktr_room); (case ku => ktr_units);  intro v9 n9 h9 tk9 F9 N9 P9; (obtain ⟨x9, dx9, lp9, hs9, tk8, nd9, f9, e9, o9, q9, q8, q7⟩ := P9); (subst f9); (subst e9)); (try dsimp only); (try k_fold)))
local macro_rules | `(tactic| walk_at "mine use 2") => `(tactic| (k_here; (with_reducible show wpAny _ _ (call (Value.ref 229) [Value.ref _, Value.str _ _, Value.str _ _]) _ _ _); k_dflt ((refine' Con.use (addh_ok _ _ _ _ _ _ _ _ _ _ _ _ _ _ _ _ _ _ _ _ _ ?c1 ?c2 ?c3 ?c4 _ ?c5 ?c6 ?c7 ?c8 ?c9 ?c10) ?k1 ?k2 ?k3 ?k4 ?k5 ?kK ?kd ?ku ?kr); (case k1 => k_asm); (case k2 => k_asm); (case k3 => k_asm); (case k4 => k_asm); (case k5 => k_asm); (case kK => first | exact rfl | assumption); (case kd => ktr_room); (case ku => ktr_units); (case c1 => exact rfl); (case c2 => exact tx_decZ _); (case c3 => assumption); (case c4 => assumption); (case c6 => assumption); (case c5 => assumption); (case c7 => assumption); (case c8 => assumption); (case c9 => assumption); (case c10 => assumption); intro v9 n9 h9 tk9 F9 N9 P9; (obtain ⟨f9, nn9, T9, oT9, e9, m9, o9, d9⟩ := P9); (subst f9); (subst e9); (have q9 := o9 _ (List.Mem.head _)); (have q8 : @Ne Nat _ _ := q9); (try dsimp only at q8)); (try dsimp only); (try k_fold)))
local macro_rules | `(tactic| walk_at "call ref") => `(tactic| walk_at "mine use 2")
local macro_rules | `(tactic| walk_at "mine ch") => `(tactic| (k_here; (with_reducible show wpAny _ _ (subscriptTail _ _ (Value.ref _) (Value.int _ _)) _ _ _); k_dflt ((with_unfolding_all refine' item_ch ?k1 ?k2 ?k3 ?k4 ?k5 ?k6 ?k7 ?kr); (case k1 => k_asm); (case k2 => k_mem); (case k3 => assumption); (case k4 => assumption); (case k5 => omega); (case k6 => omega); (case k7 => omega); intro T9 t8 t9 n9 hm9 ht9); (try dsimp only); (try k_fold)))
local macro_rules | `(tactic| walk_at "subscriptTail Name") => `(tactic| walk_at "mine ch")
structure TblJ (news : List (Addr × Obj)) (l : Nat) (cs : List Ch) (lp la : Addr) (i : Nat) (c : (List Value × Nat) × Nat × List (Addr × Obj)) (nx : List (Addr × Obj)) : Prop where
  nx_eq : nx = (lp, listOf c.1.1.toArray c.1.2) :: (la, listOf (List.replicate i Value.none).toArray c.2.1) :: (c.2.2 ++ news)
  pairs : DatAll (c.2.2 ++ news) c.1.1 ((tabPs l cs i).map pairD)
  offp : ∀ p ∈ c.2.2 ++ news, p.1 ≠ lp
  offa : ∀ p ∈ c.2.2 ++ news, p.1 ≠ la
  fresh : ∀ p ∈ c.2.2, ∀ q ∈ news, p.1 ≠ q.1
local macro_rules | `(tactic| k_all) => `(tactic| assumption)
theorem tbl_end {h₀ : Heap} {L : Addr} {h' : Heap} {tk : Nat} {m₀ m' : Str → Option Value} {x : Str} {stored : List Str} {s₁ : Shared} {lp la T : Addr} {oT oL : Obj} {vs : List Value} {nn nn' an i l : Nat} {cs : List Ch} {pool newsB own : List (Addr × Obj)}
    (F : Fr h₀ L h' m') (N : News h₀ L h' ((lp, listOf (vs ++ [Value.ref T]).toArray nn') :: (T, oT) :: (la, listOf ((List.replicate i Value.none).toArray.push Value.none) (an + 1)) :: (pool ++ newsB ++ own)))
    (d : DatIn ((T, oT) :: (pool ++ newsB)) (Value.ref T) (pairD (tabOne l cs i))) (o : ∀ p ∈ (la, oL) :: (pool ++ newsB ++ own), p.1 ≠ T) (hT : T ≠ lp) (hps : DatAll (pool ++ newsB) vs ((tabPs l cs i).map pairD)) (hop : ∀ p ∈ pool ++ newsB, p.1 ≠ lp) (hoa : ∀ p ∈ pool ++ newsB, p.1 ≠ la) (hfr : ∀ p ∈ pool, ∀ q ∈ newsB, p.1 ≠ q.1)
    (hown : OwnOff own (((lp, listOf vs.toArray nn) :: (la, listOf (List.replicate i Value.none).toArray an) :: (pool ++ newsB)).map (·.1))) (hr : ∀ z, z ≠ x → (∀ p ∈ ([] : List (Str × Value)), z ≠ p.1) → stored.contains z = false → m' z = m₀ z) :
    InvEndG h₀ L (RngS (TblJ newsB l cs lp la (i + 1)) (fun _ => []) x stored m₀) own s₁ { s₁ with heap := h', toks := tk } := by
  have e : (List.replicate i Value.none).toArray.push Value.none = (List.replicate (i + 1) Value.none).toArray := by
    rw [List.push_toArray, List.replicate_succ']
  rw [e] at N
  have hTa : la ≠ T := o _ (List.Mem.head _)
  refine rng_end ((vs ++ [Value.ref T], nn'), an + 1, (T, oT) :: pool) ((lp, listOf (vs ++ [Value.ref T]).toArray nn') :: (la, listOf (List.replicate (i + 1) Value.none).toArray (an + 1)) :: ((T, oT) :: pool ++ newsB)) F N ?_ ?_ ?_ (fun _ h9 => nomatch h9) hr ⟨rfl, ?_, ?_, ?_, ?_⟩
  · intro p hp
    rcases List.mem_cons.mp hp with rfl | hp
    · exact List.Mem.head _
    rcases List.mem_cons.mp hp with rfl | hp
    · exact List.Mem.tail _ (List.Mem.tail _ (List.Mem.head _))
    rcases List.mem_cons.mp hp with rfl | hp
    · exact List.Mem.tail _ (List.Mem.head _)
    exact List.Mem.tail _ (List.Mem.tail _ (List.Mem.tail _ (List.mem_append.mpr (.inl hp))))
  · exact fun p hp => List.Mem.tail _ (List.Mem.tail _ (List.Mem.tail _ (List.mem_append.mpr (.inr hp))))
  · intro p hp b hb
    simp only [List.map_cons, List.cons_append, List.mem_cons] at hb
    rcases hb with rfl | rfl | rfl | hb
    · exact hown p hp _ (List.Mem.head _)
    · exact hown p hp _ (List.Mem.tail _ (List.Mem.head _))
    · exact o p (List.Mem.tail _ (List.mem_append.mpr (.inr hp)))
    · exact hown p hp b (List.Mem.tail _ (List.Mem.tail _ hb))
  · show DatAll ((T, oT) :: (pool ++ newsB)) (vs ++ [Value.ref T]) _
    rw [tabPs_succ, List.map_append]
    exact (hps.mono fun p hp => List.Mem.tail _ hp).append (.one d)
  · intro p hp
    rcases List.mem_cons.mp hp with rfl | hp
    · exact hT
    · exact hop p hp
  · intro p hp
    rcases List.mem_cons.mp hp with rfl | hp
    · exact Ne.symm hTa
    · exact hoa p hp
  · intro p hp q hq
    rcases List.mem_cons.mp hp with rfl | hp
    · exact Ne.symm (o q (List.Mem.tail _ (List.mem_append.mpr (.inl (List.mem_append.mpr (.inr hq))))))
    · exact hfr p hp q hq
section
variable (w : World) (loose : List Str) (mean : ExcName → Option Value) (mg mb : Str → Option Value) (news : List (Addr × Obj))
theorem parse_lo (n l : Nat) (t : List Nat) (t0 : Tok) (hn : n ≤ 100) (hl : 97 ≤ l ∧ l ≤ 122) (ht : Tail t) (htl : t.length ≤ 10) :
  Con w loose mean mg mb 70 news [.str (Str.ofString "257 \"" ++ Txt.mul (Str.ofString "\"") (n : Int) ++ (tx [l] ++ Str.ofString "\"\"" ++ tx [l]) ++ tx t) t0] 1 (fun v n' => n' = news ∧ ∃ tk, v = .str (tx (told2 n l)) tk) := by
  rw [sign_text, asked_two]
  have h := parse_ok w loose mean mg mb news (tx ([50, 53, 55, 32, 34] ++ (rep n ++ (l :: 34 :: 34 :: l :: t)))) t0 (by rw [tx_len]; simp [rep_len]; omega) (by rw [tx_len]; simp) (by rw [tx_cps]; rfl)
  rw [tx_cps, told_two (by omega) ht] at h
  exact h
theorem parse_up (n l : Nat) (t : List Nat) (t0 : Tok) (hn : n ≤ 100) (hl : 97 ≤ l ∧ l ≤ 122) (ht : Tail t) (htl : t.length ≤ 10) :
  Con w loose mean mg mb 70 news [.str (Str.ofString "257 \"" ++ Txt.mul (Str.ofString "\"") (n : Int) ++ Txt.upper (tx [l] ++ Str.ofString "\"\"" ++ tx [l]) ++ tx t) t0] 1 (fun v n' => n' = news ∧ ∃ tk, v = .str (tx (told2 n (up l))) tk) := by
  have hu := up_range hl
  rw [sign_text, sign_up hl, asked_two]
  have h := parse_ok w loose mean mg mb news (tx ([50, 53, 55, 32, 34] ++ (rep n ++ (up l :: 34 :: 34 :: up l :: t)))) t0 (by rw [tx_len]; simp [rep_len]; omega) (by rw [tx_len]; simp) (by rw [tx_cps]; rfl)
  rw [tx_cps, told_two (by omega) ht] at h
  exact h
theorem table_ok (lc : Addr) (cvs : List Value) (cnn : Nat) (cs : List Ch) (l : Nat) (tl : Tok) (t : List Nat) (tt : Tok) (hm : (lc, listOf cvs.toArray cnn) ∈ news) (hd0 : DatAll news cvs (cs.map chD)) (h16 : cs.length = 16) (hcs : ChsOk cs) (hl : 97 ≤ l ∧ l ≤ 122) (ht : Tail t) (htl : t.length ≤ 10) :
  Con w loose mean mg mb 257 news [.ref lc, .str (tx [l]) tl, .str (tx t) tt] 5
    (fun v n' => ∃ add T x dx lp la hs tk nd vs nn an nT, v = .ref T ∧ n' = add ++ news ∧ (∀ p ∈ add, ∀ q ∈ news, p.1 ≠ q.1) ∧ (T, ({ cls := .type "tuple", data := .seq [Value.ref x, Value.ref la].toArray nT } : Obj)) ∈ n' ∧ HdAt 232 n' x dx hs tk nd lp vs nn (tabPs l cs 16) ∧ (la, listOf (List.replicate 16 Value.none).toArray an) ∈ n') := by
  unfold Con
  k_fill
  intro dp un gd cn cs' a ccd cl outer A₀ base h₀ L m s Q E B F X N T hk hd hu hret
  k_with_none
  w_strict (refine wpAny_call ?_; k_dflt cell_enter; repeat' ((fail_if_success (with_reducible show wpAny _ _ (pyIter _) _ _ _)); first | (k_unfold; (try dsimp only)) | (k_end; wrow_close) | walk1 | (dsimp only; walk1) | (leave1; walk_say "STEP leave1"; try dsimp only) | fail "no step"))
  rename Fr _ _ _ _ => lF
  rename News _ _ _ _ => lN
  rename IsRange _ _ _ _ _ _ _ _ => rgX
  rename_i x dx lp hs tk8 nd9 o9 q9 q8 q7 h3 tk1 la h2 l1 h1 F1 N1 hh tk2 t1 u1 v1 keepA
  obtain ⟨l1a, l1b, l1c, l1d⟩ := l1
  have l1e := allLt_ne l1d
  have hoffp : ∀ p ∈ (x, instObj 232 dx) :: (dx, dictOf [⟨hs, .str (Str.ofString "_headers") tk8, .ref lp⟩] nd9) :: news, p.1 ≠ lp := by
    intro p hp
    rcases List.mem_cons.mp hp with rfl | hp
    · exact q8
    rcases List.mem_cons.mp hp with rfl | hp
    · exact q7
    exact (o9 p hp).2.2
  have hoffa : ∀ p ∈ (x, instObj 232 dx) :: (dx, dictOf [⟨hs, .str (Str.ofString "_headers") tk8, .ref lp⟩] nd9) :: news, p.1 ≠ la := by
    intro p hp
    rcases List.mem_cons.mp hp with rfl | hp
    · exact Nat.ne_of_lt l1a
    rcases List.mem_cons.mp hp with rfl | hp
    · exact Nat.ne_of_lt l1b
    exact l1e p hp
  have hpa : @Ne Nat lp la := Nat.ne_of_lt l1c
  have hinst : (x, instObj 232 dx) ∈ (x, instObj 232 dx) :: (dx, dictOf [⟨hs, .str (Str.ofString "_headers") tk8, .ref lp⟩] nd9) :: news := List.Mem.head _
  have hdict : (dx, dictOf [⟨hs, .str (Str.ofString "_headers") tk8, .ref lp⟩] nd9) ∈ (x, instObj 232 dx) :: (dx, dictOf [⟨hs, .str (Str.ofString "_headers") tk8, .ref lp⟩] nd9) :: news := List.Mem.tail _ (List.Mem.head _)
  have hsubN : ∀ p ∈ news, p ∈ (x, instObj 232 dx) :: (dx, dictOf [⟨hs, .str (Str.ofString "_headers") tk8, .ref lp⟩] nd9) :: news := fun p hp => List.Mem.tail _ (List.Mem.tail _ hp)
  have lM := cb_drop (news := (lp, listOf #[] 0) :: (la, listOf #[] 0) :: (x, instObj 232 dx) :: (dx, dictOf [⟨hs, .str (Str.ofString "_headers") tk8, .ref lp⟩] nd9) :: news) lN (by
    intro p hp
    rcases List.mem_cons.mp hp with rfl | hp
    · exact List.Mem.tail _ (List.Mem.tail _ (List.Mem.tail _ (List.Mem.head _)))
    rcases List.mem_cons.mp hp with rfl | hp
    · exact List.Mem.head _
    rcases List.mem_cons.mp hp with rfl | hp
    · exact List.Mem.tail _ (List.Mem.head _)
    rcases List.mem_cons.mp hp with rfl | hp
    · exact List.Mem.tail _ (List.Mem.tail _ (List.Mem.head _))
    exact List.Mem.tail _ (List.Mem.tail _ (List.Mem.tail _ (List.Mem.tail _ hp))))
  clear lN F1 N1 keepA l1e l1d
  generalize hB : (x, instObj 232 dx) :: (dx, dictOf [⟨hs, .str (Str.ofString "_headers") tk8, .ref lp⟩] nd9) :: news = newsB at lM hoffp hoffa hinst hdict hsubN
  have hJ0 : TblJ newsB l cs lp la 0 (([], 0), 0, []) ((lp, listOf #[] 0) :: (la, listOf #[] 0) :: newsB) := ⟨rfl, .nil, hoffp, hoffa, fun p hp => nomatch hp⟩
  with_unfolding_all refine' range_S (n := 16) (TblJ newsB l cs lp la) (fun _ => []) [Str.ofString "count", Str.ofString "total", Str.ofString "sign", Str.ofString "told"] _ (by rfl) rgX (by decide) (by rfl) lF lM (fun _ h9 => nomatch h9) hJ0 ?turn ?done
  case done =>
    rintro ⟨⟨vs, nn⟩, an, pool⟩ nx u' h tk9 hJ F9 N9
    obtain ⟨rfl, hps, hop, hoa, hfr⟩ := hJ
    dsimp only at *
    clear lF lM
    k_unmd
    try k_fold
    w_strict (repeat' (first | (k_unfold; (try dsimp only)) | (k_end; wrow_close) | walk1 | (dsimp only; walk1) | (leave1; walk_say "STEP leave1"; try dsimp only) | fail "no step"))
    rename News h₀ L _ _ => NN
    rename _ ∧ _ ∧ AllLt _ _ => l9
    rename_i D9 _ _ _ _ _ _
    refine hret _ _ _ _ (by assumption) NN ⟨(D9, ({ cls := .type "tuple", data := .seq [Value.ref x, Value.ref la].toArray 0 } : Obj)) :: (lp, listOf vs.toArray nn) :: (la, listOf (List.replicate 16 Value.none).toArray an) :: (pool ++ [(x, instObj 232 dx), (dx, dictOf [⟨hs, .str (Str.ofString "_headers") tk8, .ref lp⟩] nd9)]), _, x, dx, lp, la, hs, tk8, nd9, vs, nn, an, 0, rfl, ?_, ?_, List.Mem.head _, ⟨?_, ?_, ?_, ?_⟩, ?_⟩
    · rw [← hB]; simp
    · intro p hp q hq
      have hqB := hsubN q hq
      simp only [List.mem_cons, List.mem_append, List.not_mem_nil, or_false] at hp
      rcases hp with rfl | rfl | rfl | hp | rfl | rfl
      · exact Ne.symm (allLt_ne l9.2.2 q (List.mem_append.mpr (.inr hqB)))
      · exact Ne.symm (hop q (List.mem_append.mpr (.inr hqB)))
      · exact Ne.symm (hoa q (List.mem_append.mpr (.inr hqB)))
      · exact hfr p hp q hqB
      · exact Ne.symm (o9 q hq).1
      · exact Ne.symm (o9 q hq).2.1
    · exact List.Mem.tail _ (List.Mem.tail _ (List.Mem.tail _ (List.mem_append.mpr (.inr hinst))))
    · exact List.Mem.tail _ (List.Mem.tail _ (List.Mem.tail _ (List.mem_append.mpr (.inr hdict))))
    · exact List.Mem.tail _ (List.Mem.head _)
    · exact hps.mono fun p hp => List.Mem.tail _ (List.Mem.tail _ (List.Mem.tail _ hp))
    · exact List.Mem.tail _ (List.Mem.tail _ (List.Mem.head _))
  case turn =>
    rintro i ⟨⟨vs, nn⟩, an, pool⟩ nx tt' u' h tk9 own hi hown hJ F9 N9
    obtain ⟨rfl, hps, hop, hoa, hfr⟩ := hJ
    dsimp only at *
    clear lF lM
    have hown1 : ∀ p ∈ own, p.1 ≠ lp := fun p hp => hown p hp lp (List.mem_cons_self)
    have hown2 : ∀ p ∈ own, p.1 ≠ la := fun p hp => hown p hp la (List.mem_cons_of_mem _ (List.mem_cons_self))
    have hmB : ∀ p ∈ newsB, p ∈ (lp, listOf vs.toArray nn) :: (la, listOf (List.replicate i Value.none).toArray an) :: (pool ++ newsB ++ own) := fun p hp => List.Mem.tail _ (List.Mem.tail _ (List.mem_append.mpr (.inl (List.mem_append.mpr (.inr hp)))))
    have hm9 : (lc, listOf cvs.toArray cnn) ∈ (lp, listOf vs.toArray nn) :: (la, listOf (List.replicate i Value.none).toArray an) :: (pool ++ newsB ++ own) := hmB _ (hsubN _ hm)
    have hb9 : ∀ p ∈ news, p ∈ (lp, listOf vs.toArray nn) :: (la, listOf (List.replicate i Value.none).toArray an) :: (pool ++ newsB ++ own) := fun p hp => hmB _ (hsubN _ hp)
    have N8 : News _ _ h ((lp, listOf vs.toArray nn) :: (la, listOf (List.replicate i Value.none).toArray an) :: (pool ++ newsB ++ own)) := N9
    clear N9
    have hll : (tx [l]).length = 1 := rfl
    have htt : (tx t).length ≤ 10 := by rw [tx_len]; exact htl
    have hq2 : (Str.ofString "\"\"").length = 2 := by decide
    obtain ⟨hci1, hci2, hci3⟩ := hcs _ (ch_mem (i := (0 + (i : Int)).toNat) (by omega))
    have hinstA : (x, instObj 232 dx) ∈ (la, listOf (List.replicate i Value.none).toArray an) :: (pool ++ newsB ++ own) := List.Mem.tail _ (List.mem_append.mpr (.inl (List.mem_append.mpr (.inr hinst))))
    have hdictA : (dx, dictOf [⟨hs, .str (Str.ofString "_headers") tk8, .ref lp⟩] nd9) ∈ (la, listOf (List.replicate i Value.none).toArray an) :: (pool ++ newsB ++ own) := List.Mem.tail _ (List.mem_append.mpr (.inl (List.mem_append.mpr (.inr hdict))))
    have hsubA : ∀ p ∈ pool ++ newsB, p ∈ (la, listOf (List.replicate i Value.none).toArray an) :: (pool ++ newsB ++ own) := fun p hp => List.Mem.tail _ (List.mem_append.mpr (.inl hp))
    have hoffA : ∀ p ∈ (la, listOf (List.replicate i Value.none).toArray an) :: (pool ++ newsB ++ own), p.1 ≠ lp := by
      intro p hp
      rcases List.mem_cons.mp hp with rfl | hp
      · exact Ne.symm hpa
      · exact (List.mem_append.mp hp).elim (hop p) (hown1 p)
    have hoffL : ∀ p ∈ pool ++ newsB ++ own, p.1 ≠ la := fun p hp => (List.mem_append.mp hp).elim (hoa p) (hown2 p)
    have hlen9 : (tabPs l cs i).length ≤ 1000 := by rw [tabPs_len]; omega
    have okY : OkT (decZ (cs.getD (0 + (i : Int)).toNat (0, 0)).2) := decZ_ok (by omega) (by omega)
    have htl8 : (Str.ofString (toString (cs.getD (0 + (i : Int)).toNat (0, 0)).2)).length ≤ 1000 := by rw [tx_decZ, tx_len]; have := okY.len; omega
    k_unmd
    k_fold
    w_strict (repeat' ((fail_if_success (with_reducible show wpAny _ _ (call (Value.ref _) _) _ _ _)); first | (k_unfold; (try dsimp only)) | (k_end; wrow_close) | walk1 | (dsimp only; walk1) | (leave1; walk_say "STEP leave1"; try dsimp only) | fail "no step"))
    · rename (_ : Int) = 1 => hpar
      have hsg : sgnL l i = up l := by
        unfold sgnL
        rw [Int.fmod_eq_emod_of_nonneg _ (by decide)] at hpar
        first | rw [if_pos (by omega)] | rw [if_neg (by omega)]
      k_dflt (refine' Con.use (parse_up _ _ _ _ _ _ _ _ _ _ (by omega) hl ht htl) ?pk1 ?pk2 ?pk3 ?pk4 ?pk5 ?pkK ?pkd ?pku ?pkr)
      case pk1 => k_asm
      case pk2 => k_asm
      case pk3 => k_asm
      case pk4 => k_asm
      case pk5 => k_asm
      case pkK => rfl
      case pkd => ktr_room
      case pku => ktr_units
      intro vP nP hP tkP FP NP PP
      obtain ⟨eP, tP, eP2⟩ := PP
      subst eP
      subst eP2
      have okK : OkT (told2 (cs.getD (0 + (i : Int)).toNat (0, 0)).1 (up l)) := by
        have := sgnL_range hl i
        rw [hsg] at this
        exact told2_ok (by omega) this
      have htl9 : (tx (told2 (cs.getD (0 + (i : Int)).toNat (0, 0)).1 (up l))).length ≤ 1000 := by rw [tx_len]; have := okK.len; omega
      k_unmd
      try k_fold
      try dsimp only
      w_strict (repeat' (first | (k_unfold; (try dsimp only)) | (k_end; wrow_close) | walk1 | (dsimp only; walk1) | (leave1; walk_say "STEP leave1"; try dsimp only) | fail "no step"))
      rename DatIn _ _ _ => d9
      rename News _ _ _ _ => nE
      have e0 : (0 + (i : Int)).toNat = i := by omega
      rw [e0, ← hsg] at d9
      refine' tbl_end (by assumption) nE d9 (by assumption) (by assumption) hps hop hoa hfr hown ?kra
      case kra => (intro z h1 h2 h3; simp only [List.forall_mem_cons, List.not_mem_nil, false_implies, implies_true, and_true, ne_eq] at h2; simp only [List.contains_cons, List.contains_nil, Bool.or_false, Bool.or_eq_false_iff, beq_eq_false_iff_ne, ne_eq] at h3; simp [kstB, h1, h2, h3])
    · rename ¬ (_ : Int) = 1 => hpar
      have hsg : sgnL l i = l := by
        unfold sgnL
        rw [Int.fmod_eq_emod_of_nonneg _ (by decide)] at hpar
        first | rw [if_pos (by omega)] | rw [if_neg (by omega)]
      k_dflt (refine' Con.use (parse_lo _ _ _ _ _ _ _ _ _ _ (by omega) hl ht htl) ?qk1 ?qk2 ?qk3 ?qk4 ?qk5 ?qkK ?qkd ?qku ?qkr)
      case qk1 => k_asm
      case qk2 => k_asm
      case qk3 => k_asm
      case qk4 => k_asm
      case qk5 => k_asm
      case qkK => rfl
      case qkd => ktr_room
      case qku => ktr_units
      intro vP nP hP tkP FP NP PP
      obtain ⟨eP, tP, eP2⟩ := PP
      subst eP
      subst eP2
      have okK : OkT (told2 (cs.getD (0 + (i : Int)).toNat (0, 0)).1 l) := by
        have := sgnL_range hl i
        rw [hsg] at this
        exact told2_ok (by omega) this
      have htl9 : (tx (told2 (cs.getD (0 + (i : Int)).toNat (0, 0)).1 l)).length ≤ 1000 := by rw [tx_len]; have := okK.len; omega
      k_unmd
      try k_fold
      try dsimp only
      w_strict (repeat' (first | (k_unfold; (try dsimp only)) | (k_end; wrow_close) | walk1 | (dsimp only; walk1) | (leave1; walk_say "STEP leave1"; try dsimp only) | fail "no step"))
      rename DatIn _ _ _ => d9
      rename News _ _ _ _ => nE
      have e0 : (0 + (i : Int)).toNat = i := by omega
      rw [e0, ← hsg] at d9
      refine' tbl_end (by assumption) nE d9 (by assumption) (by assumption) hps hop hoa hfr hown ?krb
      case krb => (intro z h1 h2 h3; simp only [List.forall_mem_cons, List.not_mem_nil, false_implies, implies_true, and_true, ne_eq] at h2; simp only [List.contains_cons, List.contains_nil, Bool.or_false, Bool.or_eq_false_iff, beq_eq_false_iff_ne, ne_eq] at h3; simp [kstB, h1, h2, h3])
end
end
section
open PySem PySem.W PyProof.Rows


local macro_rules | `(tactic| walk_at "mine ch") => `(tactic| (k_here; (with_reducible show wpAny _ _ (subscriptTail _ _ (Value.ref _) (Value.int _ _)) _ _ _); k_dflt ((with_unfolding_all refine' item_ch ?k1 ?k2 ?k3 ?k4 ?k5 ?k6 ?k7 ?kr); (case k1 => k_asm); (case k2 => k_mem); (case k3 => assumption); (case k4 => assumption); (case k5 => omega); (case k6 => omega); (case k7 => omega); intro T9 t8 t9 n9 hm9 ht9); (try dsimp only); (try k_fold)))
local macro_rules | `(tactic| walk_at "mine tup0") => `(tactic| (k_here; (with_reducible show wpAny _ _ (subscriptTail _ _ (Value.ref _) (Value.int 0 _)) _ _ _); (with_unfolding_all refine' kim_tup (j := 0) (l := [_, _]) ?k1 ?k2 ?k3 ?k4 ?k5 ?k6 ?k7 ?k8 ?_); (case k1 => k_asm); (case k2 => k_dflt k_mem); (case k3 => with_unfolding_all rfl); (case k4 => with_unfolding_all rfl); (case k5 => decide); (case k6 => decide); (case k7 => with_unfolding_all rfl); (case k8 => with_unfolding_all rfl); (try dsimp only); (try k_fold)))
local macro_rules | `(tactic| walk_at "subscriptTail") => `(tactic| walk_at "mine tup0")
local macro_rules | `(tactic| walk_at "subscriptTail Name") => `(tactic| walk_at "mine ch")
def nameD (p : PT) : Dat := Dat.str (tx p.1)
structure NmJ (news : List (Addr × Obj)) (l : Nat) (cs : List Ch) (ln : Addr) (i : Nat) (c : List Value × Nat) (nx : List (Addr × Obj)) : Prop where
  nx_eq : nx = (ln, listOf c.1.toArray c.2) :: news
  names : DatAll news c.1 ((tabPs l cs i).map nameD)
local macro_rules | `(tactic| k_all) => `(tactic| assumption)
theorem up_letter {l : Nat} (hl : 97 ≤ l ∧ l ≤ 122) : Txt.upper (tx [l]) = tx [up l] := by
  rw [upper_tx (by intro c hc; simp at hc; omega)]; rfl
theorem mul_half (n : Nat) : Txt.mul (Str.ofString "\"") ((n : Int).fdiv 2) = tx (rep (n / 2)) := by
  rw [Int.fdiv_eq_ediv_of_nonneg _ (by decide), show (n : Int) / 2 = ((n / 2 : Nat) : Int) by omega, mul_mark]
theorem fmod2 (n : Nat) : (n : Int).fmod 2 = ((n % 2 : Nat) : Int) := by rw [Int.fmod_eq_emod_of_nonneg _ (by decide)]; omega
theorem fmod2z (n : Nat) : (0 + (n : Int)).fmod 2 = ((n % 2 : Nat) : Int) := by rw [Int.fmod_eq_emod_of_nonneg _ (by decide)]; omega
theorem name_lo {n l i : Nat} (hl : 97 ≤ l ∧ l ≤ 122) (h1 : n % 2 = 0) (h2 : i % 2 = 0) : Txt.mul (Str.ofString "\"") ((n : Int).fdiv 2) ++ (tx [l] ++ Str.ofString "\"" ++ tx [l]) = tx (told2 n (sgnL l i)) := by
  rw [mul_half, show Str.ofString "\"" = tx [34] from rfl, tx_app, tx_app, tx_app]
  unfold told2 sgnL
  rw [if_pos h1, if_neg (by omega)]; rfl
theorem name_up {n l i : Nat} (hl : 97 ≤ l ∧ l ≤ 122) (h1 : n % 2 = 0) (h2 : ¬ i % 2 = 0) : Txt.mul (Str.ofString "\"") ((n : Int).fdiv 2) ++ (Txt.upper (tx [l]) ++ Str.ofString "\"" ++ Txt.upper (tx [l])) = tx (told2 n (sgnL l i)) := by
  rw [mul_half, up_letter hl, show Str.ofString "\"" = tx [34] from rfl, tx_app, tx_app, tx_app]
  unfold told2 sgnL
  rw [if_pos h1, if_pos (by omega)]; rfl
theorem name_odd {n l i : Nat} (h1 : ¬ n % 2 = 0) : Txt.mul (Str.ofString "\"") ((n : Int).fdiv 2) = tx (told2 n (sgnL l i)) := by
  rw [mul_half]
  unfold told2
  rw [if_neg h1, List.append_nil]
theorem nm_end {h₀ : Heap} {L : Addr} {h' : Heap} {tk : Nat} {m₀ m' : Str → Option Value} {x : Str} {stored : List Str} {s₁ : Shared} {ln : Addr} {vs : List Value} {nn i l : Nat} {cs : List Ch} {news own : List (Addr × Obj)} {y : Str} {t : Tok}
    (F : Fr h₀ L h' m') (N : News h₀ L h' ((ln, listOf (vs.toArray.push (Value.str y t)) (nn + 1)) :: (news ++ own))) (hy : y = tx (tabOne l cs i).1) (hps : DatAll news vs ((tabPs l cs i).map nameD))
    (hown : OwnOff own (((ln, listOf vs.toArray nn) :: news).map (·.1))) (hr : ∀ z, z ≠ x → (∀ p ∈ ([] : List (Str × Value)), z ≠ p.1) → stored.contains z = false → m' z = m₀ z) :
    InvEndG h₀ L (RngS (NmJ news l cs ln (i + 1)) (fun _ => []) x stored m₀) own s₁ { s₁ with heap := h', toks := tk } := by
  rw [List.push_toArray] at N
  refine rng_end (vs ++ [Value.str y t], nn + 1) _ F N (fun p hp => ?_) (fun p hp => List.Mem.tail _ (List.mem_append.mpr (.inr hp))) (by exact hown) (fun _ h9 => nomatch h9) hr ⟨rfl, ?_⟩
  · rcases List.mem_cons.mp hp with rfl | hp
    · exact List.Mem.head _
    · exact List.Mem.tail _ (List.mem_append.mpr (.inl hp))
  · show DatAll news (vs ++ [Value.str y t]) _
    rw [tabPs_succ, List.map_append]
    subst hy
    exact hps.append (.one (.str _ _))
section
variable (w : World) (loose : List Str) (mean : ExcName → Option Value) (mg mb : Str → Option Value) (news : List (Addr × Obj))
theorem names_ok (lc : Addr) (cvs : List Value) (cnn : Nat) (cs : List Ch) (l : Nat) (tl : Tok) (base0 : List (Addr × Obj)) (hm : (lc, listOf cvs.toArray cnn) ∈ news) (hd0 : DatAll base0 cvs (cs.map chD)) (hb0 : ∀ p ∈ base0, p ∈ news) (h16 : cs.length = 16) (hcs : ChsOk cs) (hl : 97 ≤ l ∧ l ≤ 122) :
  Con w loose mean mg mb 264 news [.ref lc, .str (tx [l]) tl] 3
    (fun v n' => ∃ ln vs nn, v = .ref ln ∧ n' = (ln, listOf vs.toArray nn) :: news ∧ (∀ p ∈ news, p.1 ≠ ln) ∧ DatAll news vs ((tabPs l cs 16).map nameD)) := by
  unfold Con
  k_fill
  intro dp un gd cn cs' a ccd cl outer A₀ base h₀ L m s Q E B F X N T hk hd hu hret
  k_with_none
  w_strict (refine wpAny_call ?_; k_dflt cell_enter; repeat' ((fail_if_success (with_reducible show wpAny _ _ (pyIter _) _ _ _)); first | (k_unfold; (try dsimp only)) | (k_end; wrow_close) | walk1 | (dsimp only; walk1) | (leave1; walk_say "STEP leave1"; try dsimp only) | fail "no step"))
  rename_i ln h2 l1 h1 F1 N1 hh tk1 t1 u1 v1 rgX lF lN lK
  have hoffn : ∀ p ∈ news, p.1 ≠ ln := fun p hp => Nat.ne_of_lt (l1 p hp)
  have hJ0 : NmJ news l cs ln 0 ([], 0) ((ln, listOf #[] 0) :: news) := ⟨rfl, .nil⟩
  with_unfolding_all refine' range_S (n := 16) (NmJ news l cs ln) (fun _ => []) [Str.ofString "name"] _ (by rfl) rgX (by decide) (by rfl) lF lN (fun _ h9 => nomatch h9) hJ0 ?turn ?done
  case done =>
    rintro ⟨vs, nn⟩ nx u' h tk9 hJ F9 N9
    obtain ⟨rfl, hps⟩ := hJ
    dsimp only at *
    clear lF lN F1 N1 lK
    k_unmd
    try k_fold
    w_strict (repeat' (first | (k_unfold; (try dsimp only)) | (k_end; wrow_close) | walk1 | (dsimp only; walk1) | (leave1; walk_say "STEP leave1"; try dsimp only) | fail "no step"))
    exact hret _ _ _ _ (by assumption) (by assumption) ⟨ln, vs, nn, rfl, rfl, hoffn, hps⟩
  case turn =>
    rintro i ⟨vs, nn⟩ nx tt' u' h tk9 own hi hown hJ F9 N9
    obtain ⟨rfl, hps⟩ := hJ
    dsimp only at *
    clear lF lN F1 N1 lK
    have hownl : ∀ p ∈ own, p.1 ≠ ln := fun p hp => hown p hp ln (List.mem_cons_self)
    have hm9 : (lc, listOf cvs.toArray cnn) ∈ (ln, listOf vs.toArray nn) :: (news ++ own) := List.Mem.tail _ (List.mem_append.mpr (.inl hm))
    have hb9 : ∀ p ∈ base0, p ∈ (ln, listOf vs.toArray nn) :: (news ++ own) := fun p hp => List.Mem.tail _ (List.mem_append.mpr (.inl (hb0 p hp)))
    have hoff9 : ∀ p ∈ news ++ own, p.1 ≠ ln := fun p hp => (List.mem_append.mp hp).elim (hoffn p) (hownl p)
    have N8 : News _ _ h ((ln, listOf vs.toArray nn) :: (news ++ own)) := N9
    clear N9
    have hll : (tx [l]).length = 1 := rfl
    have hq2 : (Str.ofString "\"").length = 1 := by decide
    obtain ⟨hci1, hci2, hci3⟩ := hcs _ (ch_mem (i := (0 + (i : Int)).toNat) (by omega))
    have hvl : vs.length ≤ 16 := by rw [hps.length, List.length_map, tabPs_len]; omega
    have hul := up_letter hl
    have hul1 : (Txt.upper (tx [l])).length = 1 := by rw [hul]; rfl
    have hmul := mul_half (cs.getD (0 + (i : Int)).toNat (0, 0)).1
    have hml : (Txt.mul (Str.ofString "\"") (((cs.getD (0 + (i : Int)).toNat (0, 0)).1 : Int).fdiv 2)).length ≤ 100 := by rw [hmul, tx_len, rep_len]; omega
    have e0 : (0 + (i : Int)).toNat = i := by omega
    have hA : (((cs.getD (0 + (i : Int)).toNat (0, 0)).1 : Nat) : Int).fmod 2 = (((cs.getD i (0, 0)).1 % 2 : Nat) : Int) := by rw [e0]; exact fmod2 _
    have hB := fmod2z i
    k_unmd
    k_fold
    w_strict (repeat' (first | (k_unfold; (try dsimp only)) | (k_end; wrow_close) | walk1 | (dsimp only; walk1) | (leave1; walk_say "STEP leave1"; try dsimp only) | fail "no step"))
    all_goals (rename Fr _ _ _ _ => lF; rename News _ _ _ _ => lN)
    all_goals rw [e0] at lN
    · refine nm_end lF lN (name_lo hl (by omega) (by omega)) hps hown ?_
      (intro z h1 h2 h3; simp only [List.forall_mem_cons, List.not_mem_nil, false_implies, implies_true, and_true, ne_eq] at h2; simp only [List.contains_cons, List.contains_nil, Bool.or_false, Bool.or_eq_false_iff, beq_eq_false_iff_ne, ne_eq] at h3; simp [kstB, h1, h2, h3])
    · refine nm_end lF lN (name_up hl (by omega) (by omega)) hps hown ?_
      (intro z h1 h2 h3; simp only [List.forall_mem_cons, List.not_mem_nil, false_implies, implies_true, and_true, ne_eq] at h2; simp only [List.contains_cons, List.contains_nil, Bool.or_false, Bool.or_eq_false_iff, beq_eq_false_iff_ne, ne_eq] at h3; simp [kstB, h1, h2, h3])
    · exfalso; omega
    · exfalso; omega
    · refine nm_end lF lN (name_odd (by omega)) hps hown ?_
      (intro z h1 h2 h3; simp only [List.forall_mem_cons, List.not_mem_nil, false_implies, implies_true, and_true, ne_eq] at h2; simp only [List.contains_cons, List.contains_nil, Bool.or_false, Bool.or_eq_false_iff, beq_eq_false_iff_ne, ne_eq] at h3; simp [kstB, h1, h2, h3])
end
end
section
open PySem PySem.W PyProof.Rows


local macro_rules | `(tactic| walk_at "mine conv") => `(tactic| (k_here; (with_reducible show wpAny _ _ (call (Value.ref 133) [_, Value.str _ _] _) _ _ _); k_dflt (refine' ConK.use (conv_ok _ _ _ _ _ _ _ _ _ _ ?c1 ?c2) ?k1 ?k2 ?k3 ?k4 ?k5 ?kK ?kd ?ku ?kr); (case k1 => k_asm); (case k2 => k_asm); (case k3 => k_asm); (case k4 => k_asm); (case k5 => k_asm); (case kK => first | exact rfl | assumption); (case kd => ktr_room); (case ku => ktr_units); (case c1 => assumption); (case c2 => assumption); intro v9 n9 h9 tk9 F9 N9 P9; (obtain ⟨e9, f9⟩ := P9); (replace e9 := e9.symm); (subst e9); (subst f9); (try dsimp only); (try k_fold)))
local macro_rules | `(tactic| walk_at "call ref") => `(tactic| walk_at "mine conv")
local macro_rules | `(tactic| walk_at "subscriptTail") => `(tactic| (k_here; (with_reducible show wpAny _ _ (subscriptTail _ _ (Value.ref _) (Value.int _ _)) _ _ _); (with_unfolding_all refine' kim_tup (j := 0) (l := [_, _]) ?k1 ?k2 ?k3 ?k4 ?k5 ?k6 ?k7 ?k8 ?_); (case k1 => k_asm); (case k2 => k_dflt k_mem); (case k3 => with_unfolding_all rfl); (case k4 => with_unfolding_all rfl); (case k5 => decide); (case k6 => decide); (case k7 => with_unfolding_all rfl); (case k8 => with_unfolding_all rfl); (try dsimp only); (try k_fold)))
theorem offC {news : List (Addr × Obj)} {L : Addr} (h : ∀ p ∈ news, p.1 < L) : ∀ p ∈ news, p.1 ≠ L + 1 := fun p hp e => by
  have h1 : @LT.lt Nat _ p.1 L := h p hp
  have h2 : @Eq Nat p.1 (L + 1) := e
  omega
local macro_rules | `(tactic| k_all) => `(tactic| exact offC (by assumption))
local macro_rules | `(tactic| walk_at "mine tup1") => `(tactic| (k_here; (with_reducible show wpAny _ _ (subscriptTail _ _ (Value.ref _) (Value.int 1 _)) _ _ _); (with_unfolding_all refine' kim_tup (j := 1) (l := [_, _]) ?k1 ?k2 ?k3 ?k4 ?k5 ?k6 ?k7 ?k8 ?_); (case k1 => k_asm); (case k2 => k_dflt k_mem); (case k3 => with_unfolding_all rfl); (case k4 => with_unfolding_all rfl); (case k5 => decide); (case k6 => decide); (case k7 => with_unfolding_all rfl); (case k8 => with_unfolding_all rfl); (try dsimp only); (try k_fold)))
local macro_rules | `(tactic| walk_at "subscriptTail") => `(tactic| walk_at "mine tup1")
section
variable (w : World) (loose : List Str) (mean : ExcName → Option Value) (mg mb : Str → Option Value) (news : List (Addr × Obj))
theorem getall_ok (x dx : Addr) (hs : Int) (tk : Tok) (nd : Nat) (lp : Addr) (vs : List Value) (nn : Nat) (ps : List PT) (K : Str) (k : List Nat) (t : Tok) (hK : K = tx k) (base' : List (Addr × Obj)) (H : HdAt 232 base' x dx hs tk nd lp vs nn ps) (hsub : ∀ p ∈ base', p ∈ news)
  (hl : ps.length ≤ 1000) (ok : OkT k) (ha : ∀ p ∈ ps, OkT p.1 ∧ OkT p.2) :
  Con w loose mean mg mb 171 news [.ref x, .str K t] 2 (fun v n' => ∃ l vs', v = .ref l ∧ n' = (l, listOf vs'.toArray vs'.length) :: news ∧ (∀ p ∈ news, p.1 ≠ l) ∧ DatAll news vs' ((allF ps k).map strD)) := by
  subst hK
  obtain ⟨hm1, hm2, hm3, hps⟩ := H
  replace hm1 := hsub _ hm1
  replace hm2 := hsub _ hm2
  replace hm3 := hsub _ hm3
  have hlen : vs.length = ps.length := by rw [hps.length, List.length_map]
  have hlk := lower_tx ok.asc
  have hc1 : (Txt.lower (tx k)).length ≤ 1000000 := by rw [hlk, tx_len, List.length_map]; have := ok.len; omega
  have hc2 : Clean (Txt.lower (tx k)).cps := by
    rw [hlk]
    intro c hc
    rw [tx_cps] at hc
    obtain ⟨b, hb, rfl⟩ := List.mem_map.mp hc
    have := ok.cs b hb
    unfold lo; split <;> omega
  have hkl : (tx k).length ≤ 1000 := by rw [tx_len]; have := ok.len; omega
  unfold Con
  k_fill
  intro dp un gd cn cs a ccd cl outer A₀ base h₀ L m s Q E B F X N T hk hd hu hret
  k_with_none
  w_strict (refine wpAny_call ?_; k_dflt (refine' code_defC ?k1 ?k2 ?k3 ?k4 ?k5 ?kA ?kF ?kK ?k6 ?k7 ?k8 ?k9 ?kB ?kD ?_ ?c2 ?c3 ?c4; (case kA => exact rfl); (case kF => exact rfl); (case kK => assumption); (case k1 => k_asm); (case k2 => k_asm); (case k3 => k_asm); (case k4 => k_asm); (case k5 => k_asm); (case k6 => k_is); (case k7 => k_is); (case k8 => ktr_room); (case k9 => first | exact BindsTo.of_eq rfl | exact binds_K (by k_in) rfl (by k_is) rfl rfl rfl); (case kB => exact rfl); (case kD => decide +kernel); (case c2 => exact rfl); (case c3 => exact rfl); (case c4 => exact rfl); k_whole; intro g' L' h' tk' cells' FG' F' N' Y' B' X' T' l1; k_cells Y'; (try simp only [List.cons_append, List.nil_append] at N'); (try dsimp only); (try k_lift B'); (try k_fold)); repeat' ((fail_if_success (with_reducible show wpAny _ _ (eval (Expr.ListComp _ _ _ _) _) _ _ _)); first | (k_unfold; (try dsimp only)) | (k_end; wrow_close) | walk1 | (dsimp only; walk1) | (leave1; walk_say "STEP leave1"; try dsimp only) | fail "no step"))
  refine PyProof.Rows.LCt.ListComp_T (F₀ := by k_asm) (by with_unfolding_all rfl) (by decide) (by rfl) (by decide) (by rfl) ?_
  w_strict (repeat' ((fail_if_success (with_reducible show PyProof.Rows.LCt.CompSrcT _ _ _ _ _ _ _ _ _ _ _ _ _ _ _)); first | (k_unfold; (try dsimp only)) | (k_end; wrow_close) | walk1 | (dsimp only; walk1) | (leave1; walk_say "STEP leave1"; try dsimp only) | fail "no step"))
  refine PyProof.Rows.LCt.CompSrcT.ledger (by rfl) (by k_asm) (by k_asm) (List.Mem.tail _ hm3) (by rw [List.size_toArray, sizeLine_eq, hlen]; omega) ?_
  intro g2
  rename News _ _ _ _ => lN
  rename _ = Data.cell _ => hcell
  refine compT_J (fun i ys n' => n' = _ ∧ DatAll news ys ((allF (ps.take i) k).map strD)) ?turn ?fin vs.toArray.size 0 [] _ (Nat.zero_add _) ⟨rfl, .nil⟩
  case fin =>
    rintro ys n' ⟨rfl, hys⟩
    rw [show vs.toArray.size = ps.length from by simp [hlen], List.take_length] at hys
    unfold PyProof.Rows.LCg.FinE
    intro D h' tk' F' N' o1
    k_unmd
    try k_fold
    try dsimp only
    w_strict (repeat' (first | (k_unfold; (try dsimp only)) | (k_end; wrow_close) | walk1 | (dsimp only; walk1) | (leave1; walk_say "STEP leave1"; try dsimp only) | fail "no step"))
    have hD := off1_mem o1
    refine hret _ _ _ _ (by assumption) (cb_drop (by assumption) ?hp) ⟨D, ys, rfl, rfl, fun p hp => hD p (List.Mem.tail _ hp), hys⟩
    case hp =>
      intro p hp
      rcases List.mem_cons.mp hp with rfl | hp
      · exact List.Mem.head _
      · exact List.Mem.tail _ (List.Mem.tail _ hp)
  case turn =>
    rintro i ys n' hi ⟨rfl, hys⟩ v I oI C oC D m₂ h tk' E' hv hC hx F' N' off ne
    try dsimp only at hv
    have hi' : i < ps.length := by simpa [hlen] using hi
    obtain ⟨v2, hv2, hd⟩ := hps.get (k := i) (by rw [List.length_map]; exact hi')
    have hv' : vs[i]? = some v := by simpa using hv
    rw [hv'] at hv2
    cases hv2
    rw [List.getElem_map] at hd
    obtain ⟨T, t1, t2, nT, rfl, hT⟩ := pair_at hd
    replace hT := hsub _ hT
    have htk : ps.take (i + 1) = ps.take i ++ [ps[i]] := by rw [List.take_add_one, List.getElem?_eq_getElem hi']; rfl
    obtain ⟨ha1, ha2⟩ := ha (ps[i]'hi') (List.getElem_mem hi')
    have hlp := lower_tx ha1.asc
    have hll : (tx (ps[i]'hi').1).length ≤ 1000 := by rw [tx_len]; have := ha1.len; omega
    k_unmd
    try k_fold
    try dsimp only
    w_strict (repeat' (first | (k_unfold; (try dsimp only)) | (k_end; wrow_close) | walk1 | (dsimp only; walk1) | (leave1; walk_say "STEP leave1"; try dsimp only) | fail "no step"))
    · rename _ = true => hq
      rw [hlp, hlk] at hq
      refine compEnd_same (by assumption) (by assumption) off (.inr ⟨_, List.Mem.tail _ hm3, rfl, _, rfl⟩) ⟨rfl, ?_⟩
      have hne : ps[i].1.map lo = k.map lo := by
        rw [tx_beq] at hq
        exact of_decide_eq_true hq
      have : allF (ps.take (i + 1)) k = allF (ps.take i) k ++ [ps[i].2] := by unfold allF; rw [htk, List.filter_append]; simp [hne]
      rw [this, List.map_append]
      exact hys.append (.one (.str _ _))
    · rename _ = false => hq
      rw [hlp, hlk] at hq
      refine compEnd_same (by assumption) (by assumption) off (.inr ⟨_, List.Mem.tail _ hm3, rfl, _, rfl⟩) ⟨rfl, ?_⟩
      have hne : ps[i].1.map lo ≠ k.map lo := by
        rw [tx_beq] at hq
        exact of_decide_eq_false hq
      have : allF (ps.take (i + 1)) k = allF (ps.take i) k := by unfold allF; rw [htk, List.filter_append]; simp [hne]
      rw [this]
      exact hys
end
end
section
open PySem PySem.W PyProof.Rows


local macro_rules | `(tactic| walk_at "exec For Name Call cons nil") => `(tactic| (k_here; (rename Fr _ _ _ _ => lF'); (with_unfolding_all refine' For_turns lF' ?_); k_whole))
theorem ch_at {news : List (Addr × Obj)} {v : Value} {c : Ch} (h : DatIn news v (chD c)) : ∃ a t1 t2 n, v = .ref a ∧ (a, ({ cls := .type "tuple", data := .seq [Value.int c.1 t1, Value.int c.2 t2].toArray n } : Obj)) ∈ news := by
  unfold chD at h
  cases h with
  | tuple hm hd =>
    cases hd with
    | cons h1 h2 => cases h1 with
      | int x t1 => cases h2 with
        | cons h3 h4 => cases h3 with
          | int y t2 => cases h4; exact ⟨_, t1, t2, _, rfl, hm⟩
def RowJ (news : List (Addr × Obj)) (cs : List Ch) (rest : Nat) (lr cH cR : Addr) (oR : Obj) (m₀ : Str → Option Value) (i : Nat) (m₁ : Str → Option Value) (n₁ : List (Addr × Obj)) : Prop :=
  (∀ z, [Str.ofString "sums", Str.ofString "text"].contains z = false → m₁ z = m₀ z) ∧ ∃ rvs rn oh vh, n₁ = (lr, listOf rvs.toArray rn) :: (cH, oh) :: (cR, oR) :: news ∧ oh.data = Data.cell vh ∧ IntsAre rvs (insL [] (rowPre cs rest i))
theorem fr_stored {h₀ h : Heap} {L : Addr} {xs : List Str} {m₁ m₀ : Str → Option Value} (hz : ∀ z, xs.contains z = false → m₁ z = m₀ z) (F : Fr h₀ L h m₁) : Fr h₀ L h (fun z => if xs.contains z = true then m₁ z else m₀ z) := by
  have e : (fun z => if xs.contains z = true then m₁ z else m₀ z) = m₁ := by
    funext z
    cases h : xs.contains z with
    | true => simp
    | false => simp [hz z h]
  rw [e]; exact F
theorem selR_ok {cs : List Ch} {rest half : Nat} (h : ChsOk cs) : ∀ z ∈ selR cs rest half, -4000000 ≤ z ∧ z ≤ 4000000 := by
  intro z hz
  unfold selR at hz
  obtain ⟨c, hc, rfl⟩ := List.mem_map.mp hz
  exact (h c (List.mem_filter.mp hc).1).2
theorem rowPre_len {cs : List Ch} (h16 : cs.length = 16) (rest : Nat) : ∀ i, (rowPre cs rest i).length ≤ 16 * i
  | 0 => Nat.le_refl _
  | i + 1 => by
    have := rowPre_len h16 rest i
    have h2 : (selR cs rest i).length ≤ 16 := by unfold selR; rw [List.length_map, ← h16]; exact List.length_filter_le _ _
    show (rowPre cs rest i ++ selR cs rest i).length ≤ _
    rw [List.length_append]; omega
theorem dat_strs {n1 n2 : List (Addr × Obj)} {α : Type} {f : α → List Nat} : ∀ {l : List α} {vs : List Value}, DatAll n1 vs (l.map fun z => strD (f z)) → DatAll n2 vs (l.map fun z => strD (f z))
  | [], _, h => by cases h; exact .nil
  | z :: r, _, h => by
    rw [List.map_cons] at h ⊢
    cases h with
    | cons h1 h2 =>
      refine .cons ?_ (dat_strs h2)
      cases h1 with
      | str x t => exact .str _ _
local macro_rules | `(tactic| walk_at "mine use 1") => `(tactic| (k_here; (with_reducible show wpAny _ _ (call (Value.ref 79) [Value.ref _, Value.int _ _]) _ _ _); k_dflt ((refine' Con.use (ins_ok _ _ _ _ _ _ _ _ _ _ _ _ ?c1 ?c2 ?c3) ?k1 ?k2 ?k3 ?k4 ?k5 ?kK ?kd ?ku ?kr); (case k1 => k_asm); (case k2 => k_asm); (case k3 => k_asm); (case k4 => k_asm); (case k5 => k_asm); (case kK => first | exact rfl | assumption); (case kd => ktr_room); (case ku => ktr_units); (case c1 => assumption); (case c2 => omega); (case c3 => assumption); intro v9 n9 h9 tk9 F9 N9 P9; (obtain ⟨f9, vs9, nn9, e9, I9⟩ := P9); (subst f9); (subst e9)); (try dsimp only); (try k_fold)))
theorem insL_app (ns xs ys : List Int) : insL ns (xs ++ ys) = insL (insL ns xs) ys := by
  unfold insL; rw [List.foldl_append]
theorem mem_fix {x p : Addr × Obj} {cst tl own : List (Addr × Obj)} (h : p ∈ [x] ++ (cst ++ ([] ++ tl))) : p ∈ x :: (cst ++ (tl ++ own)) := by
  simp only [List.mem_append, List.mem_cons, List.not_mem_nil, or_false, false_or] at h ⊢
  rcases h with h | h | h <;> simp [h]
theorem mem_own {x p : Addr × Obj} {cst tl own : List (Addr × Obj)} (h : p ∈ own) : p ∈ x :: (cst ++ (tl ++ own)) := by simp [h]
section
variable (w : World) (loose : List Str) (mean : ExcName → Option Value) (mg mb : Str → Option Value) (news : List (Addr × Obj))
theorem row_ok (x dx : Addr) (hs : Int) (tkH : Tok) (nd : Nat) (lp : Addr) (vs : List Value) (nn : Nat) (lc : Addr) (cvs : List Value) (cnn : Nat) (cs : List Ch) (l : Nat) (rest : Nat) (tr : Tok) (K : Str) (t : Tok) (hK : K = tx (endT l rest)) (base0 : List (Addr × Obj))
  (H : HdAt 232 base0 x dx hs tkH nd lp vs nn (tabPs l cs 16)) (hm : (lc, listOf cvs.toArray cnn) ∈ base0) (hd0 : DatAll base0 cvs (cs.map chD)) (hsub : ∀ p ∈ base0, p ∈ news) (h16 : cs.length = 16) (hcs : ChsOk cs) (hl : 97 ≤ l ∧ l ≤ 122) (hr : rest < 2) :
  Con w loose mean mg mb 269 news [.ref x, .ref lc, .int rest tr, .str K t] 20
    (fun v n' => ∃ lr rvs rn M, v = .ref lr ∧ n' = (lr, listOf rvs.toArray rn) :: news ∧ (∀ p ∈ news, p.1 ≠ lr) ∧ IntsAre rvs (insL [] (rowPre cs rest M)) ∧ (∀ c ∈ cs, c.1 < 2 * M) ∧ M ≤ 9) := by
  unfold Con
  k_fill
  intro dp un gd cn cs' a ccd cl outer A₀ base h₀ L m s Q E B F X N T hk hd hu hret
  k_with_none
  w_strict (refine wpAny_call ?_; k_dflt (refine' code_defC ?k1 ?k2 ?k3 ?k4 ?k5 ?kA ?kF ?kK ?k6 ?k7 ?k8 ?k9 ?kB ?kD ?_ ?c2 ?c3 ?c4; (case kA => exact rfl); (case kF => exact rfl); (case kK => assumption); (case k1 => k_asm); (case k2 => k_asm); (case k3 => k_asm); (case k4 => k_asm); (case k5 => k_asm); (case k6 => k_is); (case k7 => k_is); (case k8 => ktr_room); (case k9 => first | exact BindsTo.of_eq rfl | exact binds_K (by k_in) rfl (by k_is) rfl rfl rfl); (case kB => exact rfl); (case kD => decide +kernel); (case c2 => exact rfl); (case c3 => exact rfl); (case c4 => exact rfl); k_whole; intro g' L' h' tk' cells' FG' F' N' Y' B' X' T' l1; k_cells Y'; (try simp only [List.cons_append, List.nil_append] at N'); (try dsimp only); (try k_lift B'); (try k_fold)); repeat' ((fail_if_success (with_reducible show wpAny _ _ (eval (Expr.ListComp _ _ _ _) _) _ _ _)); first | (k_unfold; (try dsimp only)) | (k_end; wrow_close) | walk1 | (dsimp only; walk1) | (leave1; walk_say "STEP leave1"; try dsimp only) | fail "no step"))
  rename_i oH oR dH dR lr h1 l1r h2 F1 N1
  have dR' : oR.data = Data.cell (some (.int rest tr)) := dR
  have dH' : oH.data = Data.cell none := dH
  clear dR dH
  obtain ⟨l1a, l1b, l1c⟩ := l1r
  have hoffr := allLt_ne l1c
  have hclen : cvs.length = 16 := by rw [hd0.length, List.length_map, h16]
  refine PyProof.Rows.LCp.ListComp_P (F₀ := by k_asm) (by with_unfolding_all rfl) (by decide) (by rfl) (by decide) (by rfl) (by rfl) (by decide) ?_
  w_strict (repeat' ((fail_if_success (with_reducible show PyProof.Rows.LCp.SrcLP _ _ _ _ _ _ _ _ _ _ _ _ _ _ _)); first | (k_unfold; (try dsimp only)) | (k_end; wrow_close) | walk1 | (dsimp only; walk1) | (leave1; walk_say "STEP leave1"; try dsimp only) | fail "no step"))
  refine PyProof.Rows.LCp.SrcLP.ledger (by rfl) (by k_asm) (by k_asm) (List.Mem.tail _ (List.Mem.tail _ (List.Mem.tail _ (hsub _ hm)))) (by rw [List.size_toArray, sizeLine_eq, hclen]; omega) ?_
  intro g2
  refine compP_J (fun i ys n' => n' = _ ∧ IntsAre ys ((cs.take i).map fun c => (c.1 : Int))) ?turnM ?finM cvs.toArray.size 0 [] _ (Nat.zero_add _) ⟨rfl, .nil⟩
  case turnM =>
    rintro i ys n' hi ⟨rfl, hys⟩ v hv
    have hi' : i < cs.length := by simpa [hclen, h16] using hi
    obtain ⟨v2, hv2, hd2⟩ := hd0.get (k := i) (by rw [List.length_map]; exact hi')
    have hv' : cvs[i]? = some v := by simpa using hv
    rw [hv'] at hv2
    cases hv2
    rw [List.getElem_map] at hd2
    obtain ⟨T9, t1, t2, nT, rfl, hT⟩ := ch_at hd2
    refine ⟨T9, _, _, _, nT, rfl, List.Mem.tail _ (List.Mem.tail _ (List.Mem.tail _ (hsub _ hT))), rfl, rfl, ?_⟩
    intro I oI C oC D m₂ h tk' E' hC hx1 hx2 F' N' off ne
    k_unmd
    try k_fold
    try dsimp only
    w_strict (repeat' (first | (k_unfold; (try dsimp only)) | (k_end; wrow_close) | walk1 | (dsimp only; walk1) | (leave1; walk_say "STEP leave1"; try dsimp only) | fail "no step"))
    refine compEnd_same (by assumption) (by assumption) off (.inr ⟨_, List.Mem.tail _ (List.Mem.tail _ (List.Mem.tail _ (hsub _ hm))), rfl, _, rfl⟩) ⟨rfl, ?_⟩
    rw [List.take_add_one, List.getElem?_eq_getElem hi', List.map_append]
    exact hys.append (.cons _ _ .nil)
  case finM =>
    rintro ys n' ⟨rfl, hys⟩
    rw [show cvs.toArray.size = cs.length from by simp [hclen, h16], List.take_length] at hys
    unfold PyProof.Rows.LCg.FinE
    intro D h' tk' F' N' o1
    clear F1 N1
    k_unmd
    try k_fold
    try dsimp only
    w_strict (repeat' ((fail_if_success (with_reducible show wpAny _ _ (pyIter _) _ _ _)); first | (k_unfold; (try dsimp only)) | (k_end; wrow_close) | walk1 | (dsimp only; walk1) | (leave1; walk_say "STEP leave1"; try dsimp only) | fail "no step"))
    rename _ ∈ List.map _ cs => hMin
    rename ∀ _, _ ∈ List.map _ cs → _ => hMle
    obtain ⟨cM, hcM, hMe⟩ := List.mem_map.mp hMin
    subst hMe
    have hM16 := (hcs cM hcM).1
    rename Fr _ _ _ _ => lF
    rename News _ _ _ _ => lN
    rename IsRange _ _ _ _ _ _ _ _ => rgX
    have hfd : ((cM.1 : Int)).fdiv 2 + 1 = ((cM.1 / 2 + 1 : Nat) : Int) := by rw [Int.fdiv_eq_ediv_of_nonneg _ (by decide)]; omega
    rw [hfd] at rgX
    have hall : ∀ c ∈ cs, c.1 < 2 * (cM.1 / 2 + 1) := fun c hc => by have := hMle _ (List.mem_map.mpr ⟨c, hc, rfl⟩); omega
    have lM := cb_drop (news := (lr, listOf #[] 0) :: (L' + 1 + 1, oH) :: (L' + 1, oR) :: news) lN (by exact fun p hp => List.Mem.tail _ hp)
    clear lN hMin hMle hys o1
    with_unfolding_all refine' iter_RJ (n := cM.1 / 2 + 1) (RowJ news cs rest lr (L' + 1 + 1) (L' + 1) oR _) (by rfl) rgX (small_one (by omega) (by omega) (by omega) (by omega)) (by exact rangeSize_nat _ _) lF lM ⟨fun _ _ => rfl, [], 0, oH, none, rfl, dH', .nil⟩ ?turn ?done
    case done =>
      rintro m₁ n₁ h tk' ⟨hz, rvs, rn, oh, vh, rfl, hoh, hI⟩ F9 N9
      replace F9 := fr_stored hz F9
      clear lF lM rgX
      k_unmd
      try k_fold
      try dsimp only
      w_strict (repeat' (first | (k_unfold; (try dsimp only)) | (k_end; wrow_close) | walk1 | (dsimp only; walk1) | (leave1; walk_say "STEP leave1"; try dsimp only) | fail "no step"))
      refine hret _ _ _ _ (by assumption) (cb_drop (by assumption) ?hp) ⟨lr, rvs, rn, cM.1 / 2 + 1, rfl, rfl, hoffr, hI, hall, by omega⟩
      case hp =>
        intro p hp
        rcases List.mem_cons.mp hp with rfl | hp
        · exact List.Mem.head _
        · exact List.Mem.tail _ (List.Mem.tail _ (List.Mem.tail _ hp))
    case turn =>
      rintro i tt m₁ n₁ h tk' I oI hi ⟨hz, rvs, rn, oh, vh, rfl, hoh, hI⟩ hoff F9 N9
      replace F9 := fr_stored hz F9
      clear lF lM rgX
      have q1 : ∀ p ∈ (L' + 1, oR) :: news, p.1 ≠ L' + 1 + 1 := by
        intro p hp
        rcases List.mem_cons.mp hp with rfl | hp
        · exact Nat.ne_of_lt (Nat.lt_succ_self _)
        · have : @LT.lt Nat _ p.1 L' := l1 p hp
          intro e
          have e2 : @Eq Nat p.1 (L' + 1 + 1) := e
          omega
      have q2 : @Ne Nat lr (L' + 1 + 1) := Nat.ne_of_gt l1a
      have hx1 := hsub _ H.inst
      have hx2 := hsub _ H.dict
      have hi9 : i ≤ 8 := by omega
      have e0 : (0 + (i : Int)) = (i : Int) := by omega
      have hKl : K.length ≤ 3 := by rw [hK, tx_len]; unfold endT; split <;> simp
      have hml : (Txt.mul (Str.ofString "\"") (0 + (i : Int))).length ≤ 8 := by rw [e0, mul_mark, tx_len, rep_len]; omega
      have hIr : lr ≠ I := hoff (lr, listOf rvs.toArray rn) (List.Mem.head _)
      have q3 : @Ne Nat I (L' + 1 + 1) := Ne.symm (hoff _ (List.Mem.tail _ (List.Mem.head _)))
      k_unmd
      try k_fold
      try dsimp only
      w_strict (repeat' ((fail_if_success (with_reducible show wpAny _ _ (call (Value.ref _) _) _ _ _)); first | (k_unfold; (try dsimp only)) | (k_end; wrow_close) | walk1 | (dsimp only; walk1) | (leave1; walk_say "STEP leave1"; try dsimp only) | fail "no step"))
      refine storeX_C (by k_asm) (by k_asm) (by rfl) (UpdF.tail q3 (UpdF.tail q2 (UpdF.head q1))) hoh ?_
      intro h5 o5 F5 N5 d5
      clear F9 N9
      k_unmd
      try k_fold
      try dsimp only
      w_strict (repeat' ((fail_if_success (with_reducible show wpAny _ _ (call (Value.ref _) _) _ _ _)); first | (k_unfold; (try dsimp only)) | (k_end; wrow_close) | walk1 | (dsimp only; walk1) | (leave1; walk_say "STEP leave1"; try dsimp only) | fail "no step"))
      have hKK : Txt.mul (Str.ofString "\"") (0 + (i : Int)) ++ K = tx (rep i ++ endT l rest) := by rw [e0, mul_mark, hK, tx_app]
      have okK : OkT (rep i ++ endT l rest) := by
        refine ⟨by rw [List.length_append, rep_len]; unfold endT; split <;> simp <;> omega, fun c hc => ?_⟩
        rcases List.mem_append.mp hc with hc | hc
        · rw [List.eq_of_mem_replicate hc]; omega
        · unfold endT at hc
          have := up_range hl
          split at hc
          · simp at hc; omega
          · exact nomatch hc
      have hps1 : (tabPs l cs 16).length ≤ 1000 := by rw [tabPs_len]; omega
      have hps2 : ∀ p ∈ tabPs l cs 16, OkT p.1 ∧ OkT p.2 := by
        intro p hp
        unfold tabPs at hp
        obtain ⟨j, hj, rfl⟩ := List.mem_map.mp hp
        exact tabOne_ok hl (by have := List.mem_range.mp hj; omega) hcs
      k_dflt (refine' Con.use (getall_ok _ _ _ _ _ _ x dx hs tkH nd lp vs nn (tabPs l cs 16) _ (rep i ++ endT l rest) _ hKK base0 H ?gsub hps1 okK hps2) ?gk1 ?gk2 ?gk3 ?gk4 ?gk5 ?gkK ?gkd ?gku ?gkr)
      case gk1 => k_asm
      case gk2 => k_asm
      case gk3 => k_asm
      case gk4 => k_asm
      case gk5 => k_asm
      case gsub => exact fun p hp => List.Mem.tail _ (List.Mem.tail _ (List.Mem.tail _ (List.Mem.tail _ (hsub p hp))))
      case gkK => rfl
      case gkd => ktr_room
      case gku => ktr_units
      intro vG nG hG tkG FG2 NG PG
      obtain ⟨lS, svs, eG, eG2, hoffS, hdS⟩ := PG
      subst eG
      subst eG2
      rw [allF_sel h16 hl hr] at hdS
      clear F5 N5
      k_unmd
      try k_fold
      try dsimp only
      w_strict (repeat' ((fail_if_success (with_reducible show wpAny _ _ (eval (Expr.ListComp _ _ _ _) _) _ _ _)); first | (k_unfold; (try dsimp only)) | (k_end; wrow_close) | walk1 | (dsimp only; walk1) | (leave1; walk_say "STEP leave1"; try dsimp only) | fail "no step"))
      refine ListComp_PT (F₀ := by k_asm) (by with_unfolding_all rfl) (by decide) (by rfl) (by decide) (by rfl) (by rfl) (by decide) ?_
      w_strict (repeat' ((fail_if_success (with_reducible show Mine.SrcPT _ _ _ _ _ _ _ _ _ _ _ _ _ _ _ _)); first | (k_unfold; (try dsimp only)) | (k_end; wrow_close) | walk1 | (dsimp only; walk1) | (leave1; walk_say "STEP leave1"; try dsimp only) | fail "no step"))
      rename Fr _ _ _ _ => lF
      rename News _ _ _ _ => lN
      refine ⟨lc, cvs.toArray, cnn, _, fun j ys => DatAll [] ys ((selR (cs.take j) rest i).map fun z => strD (decZ z)), rfl, by rfl, lF, lN, List.Mem.tail _ (List.Mem.tail _ (List.Mem.tail _ (List.Mem.tail _ (List.Mem.tail _ (hsub _ hm))))), by rw [List.size_toArray, sizeLine_eq, hclen]; omega, .nil, ?turnS, ?finS⟩
      case turnS =>
        intro g j v ys hv hJ
        have hj' : j < cs.length := by
          have : j < cvs.length := by simpa using (Array.getElem?_eq_some_iff.mp hv).1
          omega
        obtain ⟨v2, hv2, hd2⟩ := hd0.get (k := j) (by rw [List.length_map]; exact hj')
        have hv' : cvs[j]? = some v := by simpa using hv
        rw [hv'] at hv2
        cases hv2
        rw [List.getElem_map] at hd2
        obtain ⟨T9, t1, t2, nT, rfl, hT⟩ := ch_at hd2
        have hcj := hcs _ (List.getElem_mem hj')
        have htk : cs.take (j + 1) = cs.take j ++ [cs[j]] := by rw [List.take_add_one, List.getElem?_eq_getElem hj']; rfl
        refine ⟨T9, _, _, _, nT, rfl, List.Mem.tail _ (List.Mem.tail _ (List.Mem.tail _ (List.Mem.tail _ (List.Mem.tail _ (hsub _ hT))))), rfl, rfl, ?_⟩
        intro I2 oI2 C2 oC2 D2 m₂ h6 tk6 E6 hC2 hx1 hx2 F6 N6 off6 ne6
        clear lF lN
        k_unmd
        try k_fold
        try dsimp only
        w_strict (repeat' (first | (k_unfold; (try dsimp only)) | (k_end; wrow_close) | walk1 | (dsimp only; walk1) | (leave1; walk_say "STEP leave1"; try dsimp only) | fail "no step"))
        · rename (_ : Int) = 2 * _ + _ => hq
          have hsel : selR (cs.take (j + 1)) rest i = selR (cs.take j) rest i ++ [cs[j].2] := by
            unfold selR; rw [htk, List.filter_append]; simp [show cs[j].1 = 2 * i + rest by omega]
          refine compEnd_same (by assumption) (by assumption) off6 rfl ?_
          try dsimp only
          rw [hsel, List.map_append]
          refine hJ.append (.one ?_)
          show DatIn [] _ (Dat.str (tx (decZ _)))
          rw [← tx_decZ]
          exact .str _ _
        · rename ¬ (_ : Int) = 2 * _ + _ => hq
          have hsel : selR (cs.take (j + 1)) rest i = selR (cs.take j) rest i := by
            unfold selR; rw [htk, List.filter_append]; simp [show ¬ cs[j].1 = 2 * i + rest by omega]
          refine compEnd_same (by assumption) (by assumption) off6 rfl ?_
          try dsimp only
          rw [hsel]
          exact hJ
      case finS =>
        intro ys D2 h6 tk6 hJ F6 N6 o6
        clear lF lN
        k_unmd
        try k_fold
        try dsimp only
        w_strict (repeat' ((fail_if_success (with_reducible show wpAny _ _ (compareOp _ (Value.ref _) (Value.ref _)) _ _ _)); first | (k_unfold; (try dsimp only)) | (k_end; wrow_close) | walk1 | (dsimp only; walk1) | (leave1; walk_say "STEP leave1"; try dsimp only) | fail "no step"))
        have N7 : News _ _ h6 ((D2, listOf ys.toArray ys.length) :: _) := N6
        have hJ9 : DatAll [] ys ((selR cs rest i).map fun z => strD (decZ z)) := by
          have e : cs.take cvs.toArray.size = cs := List.take_of_length_le (by simp [hclen, h16])
          rw [e] at hJ; exact hJ
        have hd9 : kqdOk 9 (Dat.list ((selR cs rest i).map fun z => strD (decZ z))) = true := by
          have := strs_ok (xs := (selR cs rest i).map decZ) (by
            intro y hy
            obtain ⟨z, hz, rfl⟩ := List.mem_map.mp hy
            have := selR_ok hcs z hz
            exact decZ_ok (by omega) (by omega))
          rw [List.map_map] at this
          exact this
        rw [List.map_map] at hdS
        have hJS := hdS
        refine dat_ne_same N7 (.list (n := svs.length) (List.Mem.tail _ (List.Mem.head _)) (hdS.mono fun p hp => List.Mem.tail _ (List.Mem.tail _ hp))) (fun _ h9 => h9) (.list (n := ys.length) (List.Mem.head _) (hJ9.mono fun p hp => absurd hp List.not_mem_nil)) (fun _ h9 => h9) hd9 (by ktr_units) ?_
        w_strict (repeat' ((fail_if_success (with_reducible show wpAny _ _ (pyIter _) _ _ _)); first | (k_unfold; (try dsimp only)) | (k_end; wrow_close) | walk1 | (dsimp only; walk1) | (leave1; walk_say "STEP leave1"; try dsimp only) | fail "no step"))
        rename Fr _ _ _ _ => lF
        rename News _ _ _ _ => lN
        have hS0 : ∀ p ∈ (I, oI) :: (L' + 1 + 1, o5) :: (L' + 1, oR) :: news, p.1 ≠ lr := by
          intro p hp
          rcases List.mem_cons.mp hp with rfl | hp
          · exact Ne.symm (hoff _ (List.Mem.head _))
          rcases List.mem_cons.mp hp with rfl | hp
          · exact Ne.symm q2
          rcases List.mem_cons.mp hp with rfl | hp
          · exact Nat.ne_of_lt l1b
          exact hoffr p hp
        have hS1 : ∀ p ∈ (lS, listOf svs.toArray svs.length) :: (I, oI) :: (L' + 1 + 1, o5) :: (L' + 1, oR) :: news, p.1 ≠ lr := by
          intro p hp
          rcases List.mem_cons.mp hp with rfl | hp
          · exact Ne.symm (hoffS _ (List.Mem.tail _ (List.Mem.head _)))
          exact hS0 p hp
        have hbl : (insL [] (rowPre cs rest i)).length ≤ 16 * i := by rw [(insL_perm _ _).length_eq, List.append_nil]; exact rowPre_len h16 rest i
        have hsl : (selR cs rest i).length ≤ 16 := by unfold selR; rw [List.length_map, ← h16]; exact List.length_filter_le _ _
        with_unfolding_all refine' kd_listL (σ := List Value × List Int × Nat) (fun c => [(lr, listOf c.1.toArray c.2.2)]) ((lS, listOf svs.toArray svs.length) :: (I, oI) :: (L' + 1 + 1, o5) :: (L' + 1, oR) :: news) (fun _ => []) (fun led c => IntsAre c.1 c.2.1) [] (fun pre c => ∃ k, k ≤ (selR cs rest i).length ∧ pre = ((selR cs rest i).take k).map (fun z => strD (decZ z)) ∧ c.2.1 = insL (insL [] (rowPre cs rest i)) ((selR cs rest i).take k)) (lr :: ((lS, listOf svs.toArray svs.length) :: (I, oI) :: (L' + 1 + 1, o5) :: (L' + 1, oR) :: news).map (·.1)) (rvs, _, rn)  (by rfl) (List.Mem.head _) ?hd5 lF lN ?hn5 (fun _ => rfl) hI (fun _ h9 => nomatch h9) ?hp5 ?turn5 ?done5
        case hd5 => exact dat_strs hJS
        case hn5 =>
          intro p hp
          simp only [List.cons_append, List.nil_append, List.append_nil, List.mem_cons] at hp ⊢
          rcases hp with h9 | h9 | h9 | h9 | h9 | h9 <;> simp [h9]
        case hp5 => exact ⟨0, Nat.zero_le _, rfl, rfl⟩
        case done5 =>
          rintro ⟨ov, on, n2⟩ tl2 u h8 tk8 hoff8 hI8 ⟨k, hk1, hk2, hk3⟩ F8 N8
          dsimp only at *
          clear lF lN
          have hk : (selR cs rest i).take k = selR cs rest i := by
            have := congrArg List.length hk2
            rw [List.length_map, List.length_map, List.length_take] at this
            exact List.take_of_length_le (by omega)
          rw [hk] at hk3
          subst hk3
          k_unmd
          try k_fold
          try dsimp only
          w_strict (repeat' (first | (k_unfold; (try dsimp only)) | (k_end; wrow_close) | walk1 | (dsimp only; walk1) | (leave1; walk_say "STEP leave1"; try dsimp only) | fail "no step"))
          refine ⟨_, _, _, (lr, listOf ov.toArray n2) :: (L' + 1 + 1, o5) :: (L' + 1, oR) :: news, rfl, F8, cb_drop N8 ?s1, ?s2, ?s3, ov, n2, o5, _, rfl, d5, ?s4⟩
          case s1 =>
            intro p hp
            simp only [List.cons_append, List.nil_append, List.mem_cons, List.mem_append] at hp ⊢
            rcases hp with h9 | h9 | h9 | h9 | h9 <;> simp [h9]
          case s2 =>
            intro p hp
            rcases List.mem_cons.mp hp with rfl | hp
            · exact hIr
            rcases List.mem_cons.mp hp with rfl | hp
            · exact Ne.symm q3
            exact hoff p (List.Mem.tail _ (List.Mem.tail _ hp))
          case s3 => (intro z h3; simp only [List.contains_cons, List.contains_nil, Bool.or_false, Bool.or_eq_false_iff, beq_eq_false_iff_ne, ne_eq] at h3; simp [kstB, h3])
          case s4 =>
            show IntsAre ov (insL [] (rowPre cs rest i ++ selR cs rest i))
            rw [insL_app]; exact hI8
        case turn5 =>
          rintro ⟨ov, on, n2⟩ tl2 pre d post v u h8 tk8 own hds hdm hv hsep hoff8 hI8 ⟨k, hk1, hk2, hk3⟩ F8 N8
          dsimp only at *
          clear lF lN
          have hpl : pre.length = k := by rw [hk2, List.length_map, List.length_take]; omega
          have hdk : ((selR cs rest i).map fun z => strD (decZ z))[k]? = some d := by rw [hds, List.getElem?_append_right (by omega), hpl, Nat.sub_self]; rfl
          rw [List.getElem?_map] at hdk
          obtain ⟨z, hz, hdz⟩ := Option.map_eq_some_iff.mp hdk
          subst hdz
          have hk4 : k < (selR cs rest i).length := (List.getElem?_eq_some_iff.mp hz).1
          have hzm := selR_ok hcs z (List.mem_of_getElem? hz)
          have hread : PySem.intText? (tx (decZ z)) = some z := decZ_reads (by omega) (by omega)
          have hrl : (tx (decZ z)).length ≤ 11 := by rw [tx_len]; exact decZ_len (by omega) (by omega)
          have hon : on.length ≤ 999 := by
            rw [hk3, (insL_perm _ _).length_eq, List.length_append, List.length_take]; omega
          unfold strD at hv
          cases hv with
          | str y ty =>
            have hoffR : ∀ p ∈ ((lS, listOf svs.toArray svs.length) :: (I, oI) :: (L' + 1 + 1, o5) :: (L' + 1, oR) :: news) ++ (tl2 ++ own), p.1 ≠ lr := fun p hp => (List.mem_append.mp hp).elim (hS1 p) (hoff8.ne List.mem_cons_self p)
            have N9 : News _ _ h8 ((lr, listOf ov.toArray n2) :: (((lS, listOf svs.toArray svs.length) :: (I, oI) :: (L' + 1 + 1, o5) :: (L' + 1, oR) :: news) ++ (tl2 ++ own))) := N8
            clear N8
            k_unmd
            try k_fold
            try dsimp only
            w_strict (repeat' (first | (k_unfold; (try dsimp only)) | (k_end; wrow_close) | walk1 | (dsimp only; walk1) | (leave1; walk_say "STEP leave1"; try dsimp only) | fail "no step"))
            rename IntsAre _ (insAt _ _ _) => I9
            refine kd_end (_, _, _) [] hsep (by assumption) (by assumption) (by exact fun p hp => mem_fix hp) (fun p hp => mem_own hp) rfl (fun _ h9 => nomatch h9) (fun _ h9 => nomatch h9) (fun _ h9 => nomatch h9) ?hr5 (by exact I9) ?hp5e
            case hr5 => (intro z h1 h2 h3; simp only [List.forall_mem_cons, List.not_mem_nil, false_implies, implies_true, and_true, ne_eq] at h2; simp only [List.contains_cons, List.contains_nil, Bool.or_false, Bool.or_eq_false_iff, beq_eq_false_iff_ne, ne_eq] at h3; simp [kstB, h1, h2, h3])
            case hp5e =>
              refine ⟨k + 1, hk4, ?_, ?_⟩
              · rw [hk2, List.take_add_one, hz]; simp
              · show insAt on _ z = _
                rw [hk3, List.take_add_one, hz]
                simp only [Option.toList_some]
                rw [insL_app]; rfl
end
end
section
local macro_rules | `(tactic| walk_at "pad") => `(tactic| fail)
open PySem PySem.W PyProof.Rows


local macro_rules | `(tactic| walk_at "mine enter") => `(tactic| (k_here; (with_reducible show wpAny _ _ (call (Value.ref 70) _ _) _ _ _); (refine wpAny_call ?_); k_dflt (refine' code_def ?k1 ?k2 ?k3 ?k4 ?k5 ?kA ?kF ?kK ?k6 ?k7 ?k8 ?k9 ?kB ?_ ?c2 ?c3 ?c4 ?c5; (case kA => exact rfl); (case kF => exact rfl); (case kK => first | exact rfl | assumption); (case k1 => k_asm); (case k2 => k_asm); (case k3 => k_asm); (case k4 => k_asm); (case k5 => k_asm); (case k6 => k_is); (case k7 => k_is); (case k8 => ktr_room); (case k9 => exact BindsTo.of_eq rfl); (case c5 => decide); (case kB => exact locs rfl); (case c2 => exact rfl); (case c3 => exact rfl); (case c4 => exact rfl); k_whole; intro g' L' h' FG' F' N' B' X' T'; (try dsimp only); (try k_lift B'); (try k_fold))))
local macro_rules | `(tactic| walk_at "call ref") => `(tactic| walk_at "mine enter")
/-- a call's contract for a caller that is the first frame, of any kind -/
def Con0X (w : World) (loose : List Str) (mean : ExcName → Option Value) (mg mb : Str → Option Value) (f : Addr) (news : List (Addr × Obj)) (vs : List Value) (D : Nat) (Post : Value → List (Addr × Obj) → Prop) : Prop :=
  ∀ (dp un : Nat) (gd : Option (List Code)) (env : Env) (A₀ : Around) (base h₀ : Heap) (L : Addr) (m : Str → Option Value) (s : Shared) (Q E : Value → Shared → Prop),
    Below A₀ base [] h₀ → Fr h₀ L s.heap m → (Mine.heapK w.params).In h₀ → (Mine.heapK w.params).In base → News h₀ L s.heap news → Top viewK loose mean mg mb h₀ → Top viewK loose mean mg mb base → env.frame = some L → env.scope.kind = .function →
    dp + D < recursionLimit → un + 8 * D < cLine → (∀ v news' h' tk', Fr h₀ L h' m → News h₀ L h' news' → Post v news' → Q v { s with heap := h', toks := tk' }) →
      wpAny (model PySem.Challenge.rw_ux0026_02.row.prog w) { handled := none, depth := dp, frames := some [env], guards := gd, units := un } (call (.ref f) vs) Q E s
theorem Con0X.use {w : World} {loose : List Str} {mean : ExcName → Option Value} {mg mb : Str → Option Value} {f : Addr} {news : List (Addr × Obj)} {vs : List Value} {D : Nat} {Post : Value → List (Addr × Obj) → Prop}
    {dp un : Nat} {gd : Option (List Code)} {env : Env} {A₀ : Around} {base h₀ : Heap} {L : Addr} {m : Str → Option Value} {s : Shared} {Q E : Value → Shared → Prop}
    (c : Con0X w loose mean mg mb f news vs D Post) (B : Below A₀ base [] h₀) (F : Fr h₀ L s.heap m) (X : (Mine.heapK w.params).In h₀) (XB : (Mine.heapK w.params).In base) (N : News h₀ L s.heap news) (T : Top viewK loose mean mg mb h₀) (TB : Top viewK loose mean mg mb base) (hf : env.frame = some L) (hk : env.scope.kind = .function)
    (hd : dp + D < recursionLimit) (hu : un + 8 * D < cLine) (ret : ∀ v news' h' tk', Fr h₀ L h' m → News h₀ L h' news' → Post v news' → Q v { s with heap := h', toks := tk' }) :
    wpAny (model PySem.Challenge.rw_ux0026_02.row.prog w) { handled := none, depth := dp, frames := some [env], guards := gd, units := un } (call (.ref f) vs) Q E s := c _ _ _ _ _ _ _ _ _ _ _ _ B F X XB N T TB hf hk hd hu ret
section
variable (w : World) (loose : List Str) (mean : ExcName → Option Value) (mg mb : Str → Option Value) (news : List (Addr × Obj))
theorem refused_ok (x : Str) (t : Tok) (hl : x.length ≤ 1000) (h3 : (Txt.slice x none (some 3) != Str.ofString "257") = true) :
  Con0X w loose mean mg mb 276 news [.str x t] 4 (fun v n' => n' = news ∧ v = .bool true) := by
  unfold Con0X
  k_fill
  intro dp un gd env A₀ base h₀ L m s Q E B F X XB N T TB hf hk hd hu hret
  k_with_none
  w_strict (refine wpAny_call ?_; k_dflt (refine' code_defS0X ?k1 ?k2 ?k3 ?k4 ?k5 ?kA ?kF ?cK ?k6 ?k7 ?k8 ?k9 ?kB ?_ ?c2 ?c3 ?c4 ?c5; (case kA => exact rfl); (case kF => assumption); (case k2 => k_asm); (case k1 => k_asm); (case k3 => k_asm); (case k4 => k_asm); (case k5 => k_asm); (case k6 => k_is); (case k7 => k_is); (case k8 => first | ktr_room | omega); (case k9 => exact BindsTo.of_eq rfl); (case kB => exact locs rfl); (case cK => assumption); (case c2 => exact rfl); (case c3 => exact rfl); (case c4 => exact rfl); (case c5 => decide); k_whole; intro g' L' h' FG' F' N' B' X' T' D'; (try dsimp only); (try k_lift B'); (try k_fold)); repeat' (first | (k_unfold; (try dsimp only)) | (k_end; wrow_close) | walk1 | (dsimp only; walk1) | (leave1; walk_say "STEP leave1"; try dsimp only) | fail "no step"))
  exact hret _ _ _ _ (by assumption) (by assumption) ⟨rfl, rfl⟩
theorem allowed_ok (x : Str) (t : Tok) (hl : x.length ≤ 1000) (h5 : 5 ≤ x.length) (h3 : x.cps.toList.take 3 = [50, 53, 55]) :
  Con0X w loose mean mg mb 276 news [.str x t] 8 (fun v n' => n' = news ∧ v = .bool false) := by
  unfold Con0X
  k_fill
  intro dp un gd env A₀ base h₀ L m s Q E B F X XB N T TB hf hk hd hu hret
  k_with_none
  w_strict (refine wpAny_call ?_; k_dflt (refine' code_defS0X ?k1 ?k2 ?k3 ?k4 ?k5 ?kA ?kF ?cK ?k6 ?k7 ?k8 ?k9 ?kB ?_ ?c2 ?c3 ?c4 ?c5; (case kA => exact rfl); (case kF => assumption); (case k2 => k_asm); (case k1 => k_asm); (case k3 => k_asm); (case k4 => k_asm); (case k5 => k_asm); (case k6 => k_is); (case k7 => k_is); (case k8 => first | ktr_room | omega); (case k9 => exact BindsTo.of_eq rfl); (case kB => exact locs rfl); (case cK => assumption); (case c2 => exact rfl); (case c3 => exact rfl); (case c4 => exact rfl); (case c5 => decide); k_whole; intro g' L' h' FG' F' N' B' X' T' D'; (try dsimp only); (try k_lift B'); (try k_fold)); repeat' ((fail_if_success (with_reducible show wpAny _ _ (call (Value.ref _) _) _ _ _)); first | (k_unfold; (try dsimp only)) | (k_end; wrow_close) | walk1 | (dsimp only; walk1) | (leave1; walk_say "STEP leave1"; try dsimp only) | fail "no step"))
  k_dflt (refine' Con.use (parse_ok _ _ _ _ _ _ x t hl h5 h3) ?pk1 ?pk2 ?pk3 ?pk4 ?pk5 ?pkK ?pkd ?pku ?pkr)
  case pk1 => k_asm
  case pk2 => k_asm
  case pk3 => k_asm
  case pk4 => k_asm
  case pk5 => k_asm
  case pkK => rfl
  case pkd => first | ktr_room | (show dp + 1 + 1 < _; omega) | (simp only [Around.deeper]; omega)
  case pku => first | ktr_units | omega
  intro vP nP hP tkP FP NP PP
  obtain ⟨eP, tP, eP2⟩ := PP
  subst eP
  subst eP2
  k_unmd
  try k_fold
  try dsimp only
  w_strict (repeat' (first | (k_unfold; (try dsimp only)) | (k_end; wrow_close) | walk1 | (dsimp only; walk1) | (leave1; walk_say "STEP leave1"; try dsimp only) | fail "no step"))
  exact hret _ _ _ _ (by assumption) (by assumption) ⟨rfl, rfl⟩
end
end
section
open PySem PySem.W PyProof.Rows


theorem ConS.use {w : World} {loose : List Str} {mean : ExcName → Option Value} {mg mb : Str → Option Value} {f : Addr} {news : List (Addr × Obj)} {ls : Addr} {svs : List Value} {vs : List Value} {D : Nat} {Post : Value → List (Addr × Obj) → Prop}
    {dp un : Nat} {gd : Option (List Code)} {cn : Str} {cs : Scope} {a : Addr} {ccd : Value} {cl : List (Str × Addr)} {outer : List Env} {A₀ : Around} {base h₀ : Heap} {L : Addr} {m : Str → Option Value} {s : Shared} {Q E : Value → Shared → Prop}
    (c : ConS w loose mean mg mb f news ls svs vs D Post) (B : Below A₀ base outer h₀) (F : Fr h₀ L s.heap m) (X : (Mine.heapK w.params).In h₀) (N : News h₀ L s.heap news) (T : Top viewK loose mean mg mb h₀) (hk : cs.kind = .function) (hS : base.IsList ls svs.toArray)
    (hd : dp + D < recursionLimit) (hu : un + 8 * D < cLine) (ret : ∀ v news' h' tk', Fr h₀ L h' m → News h₀ L h' news' → Post v news' → Q v { s with heap := h', toks := tk' }) :
    wpAny (model PySem.Challenge.rw_ux0026_02.row.prog w) (ktrTop dp un gd cn cs L a ccd cl outer) (call (.ref f) vs) Q E s := c _ _ _ _ _ _ _ _ _ _ _ _ _ _ _ _ _ B F X N T hk hS hd hu ret
theorem fm_in (n : Int) {m : Int} (h : 0 < m) : 0 ≤ n.fmod m ∧ n.fmod m < m := by
  rw [Int.fmod_eq_emod_of_nonneg _ (by omega)]
  exact ⟨Int.emod_nonneg _ (by omega), Int.emod_lt_of_pos _ h⟩
section
variable {prog : Program} {w : World} {A : Around} {E : Value → Shared → Prop} {s : Shared} {h₀ : Heap} {L : Addr} {news : List (Addr × Obj)} {Q : Value → Shared → Prop}
theorem item_tails {value slice : Expr} {l : Addr} {n : Nat} {a b c : Str} {ta tb tc : Tok} {z : Int} {u : Tok} (N : News h₀ L s.heap news) (hm : (l, listOf #[Value.str a ta, Value.str b tb, Value.str c tc] n) ∈ news) (h0 : 0 ≤ z) (h3 : z < 3)
    (h : ∀ (x : Str) t, (x = a ∨ x = b ∨ x = c) → Q (.str x t) s)
    (hs : subscripted slice false (.ref l) (.int z u) = operate [.ref l, .int z u] (getItem (.ref l) (.int z u)) := by with_unfolding_all rfl) :
    wpAny (model prog w) A (subscriptTail value slice (.ref l) (.int z u)) Q E s := by
  refine kba_turn (value' := PySem.Expr.Name (PySem.Str.ofString "_") ⟨0, 0, 0, 0⟩) (fun _ => rfl) ?_
  obtain ⟨k, rfl⟩ := Int.eq_ofNat_of_zero_le h0
  have hk : k = 0 ∨ k = 1 ∨ k = 2 := by omega
  refine item_listL (l := [Value.str a ta, Value.str b tb, Value.str c tc]) ⟨_, (N _ hm).1, rfl, n, rfl⟩ h0 (by omega) (x := if k = 0 then Value.str a ta else if k = 1 then Value.str b tb else Value.str c tc) ?_ ?_ hs (fun _ => rfl)
  · rcases hk with rfl | rfl | rfl <;> rfl
  · rcases hk with rfl | rfl | rfl
    · exact h _ _ (.inl rfl)
    · exact h _ _ (.inr (.inl rfl))
    · exact h _ _ (.inr (.inr rfl))
end
local macro_rules | `(tactic| walk_at "mine tails") => `(tactic| (k_here; (with_reducible show wpAny _ _ (subscriptTail _ _ (Value.ref _) (Value.int _ _)) _ _ _); k_dflt ((with_unfolding_all refine' item_tails ?N ?m ?h0 ?h3 ?_); (case N => k_asm); (case m => k_mem)); (case h0 => assumption); (case h3 => assumption); intro x9 t9 hx9; (try dsimp only); (try k_fold)))
local macro_rules | `(tactic| walk_at "subscriptTail") => `(tactic| walk_at "mine tails")
/-! a loop that leaves the ledger as it was -/
def KeepJ (x : Str) (m₀ : Str → Option Value) (news : List (Addr × Obj)) (m : Str → Option Value) (nx : List (Addr × Obj)) : Prop := (∀ z, z ≠ x → m z = m₀ z) ∧ nx = news
section
variable {prog : Program} {w : World} {A : Around} {E : Value → Shared → Prop} {s : Shared} {env : Env} {h₀ : Heap} {x : Str} {body : List Stmt} {Q : Flow → Shared → Prop}
theorem iter_keep {ax : Addr} {vs : List Value} {nn : Nat} {m₀ : Str → Option Value} {news : List (Addr × Obj)} (hh : A.handled = none) (F : Fr h₀ env.locals s.heap m₀) (N : News h₀ env.locals s.heap news) (hm : (ax, listOf vs.toArray nn) ∈ news)
    (turn : ∀ (v : Value) (h : Heap) (tk : Nat) (own : List (Addr × Obj)), v ∈ vs → OwnOff own (news.map (·.1)) → Fr h₀ env.locals h (fun y => if y = x then some v else m₀ y) → News h₀ env.locals h (news ++ own) →
      wpAny (model prog w) A (execs body env) (InvPostG h₀ env.locals (fun m' nx => (ax, listOf vs.toArray nn) ∈ nx ∧ KeepJ x m₀ news m' nx) own { s with heap := h, toks := tk } Q) E { s with heap := h, toks := tk })
    (done : ∀ (u : Str → Option Value) h tk, Fr h₀ env.locals h (fun y => if y = x then u y else m₀ y) → News h₀ env.locals h news → Q .next { s with heap := h, toks := tk }) :
    wpAny (model prog w) A (pyIter (.ref ax)) (fun it s₂ => LoopAtV prog w A h₀ env x body Q E it s₂) E s := by
  refine kdl_iter (nn := nn) (fun _ m nx => KeepJ x m₀ news m nx) hh hm F N ⟨fun _ _ => rfl, rfl⟩ ?_ ?_
  · rintro i v m₁ nx h tk own hv hoff hmem ⟨h1, rfl⟩ F₁ N₁
    have e : (fun y => if y = x then some v else m₁ y) = (fun y => if y = x then some v else m₀ y) := by
      funext y
      by_cases hy : y = x
      · simp [hy]
      · simp [hy, h1 y hy]
    rw [e] at F₁
    exact turn v h tk own (List.mem_of_getElem? hv) hoff F₁ N₁
  · rintro m₁ nx h tk ⟨h1, rfl⟩ F₁ N₁
    have e : m₁ = (fun y => if y = x then m₁ y else m₀ y) := by
      funext y
      by_cases hy : y = x
      · simp [hy]
      · simp [hy, h1 y hy]
    rw [e] at F₁
    exact done m₁ h tk F₁ N₁
theorem keep_end {ax : Addr} {vs : List Value} {nn : Nat} {m₀ m' : Str → Option Value} {news own : List (Addr × Obj)} {L : Addr} {s₁ : Shared} {h' : Heap} {tk : Nat} (F : Fr h₀ L h' m') (N : News h₀ L h' (news ++ own)) (hm : (ax, listOf vs.toArray nn) ∈ news) (hoff : OwnOff own (news.map (·.1))) (hz : ∀ z, z ≠ x → m' z = m₀ z) :
    InvEndG h₀ L (fun m' nx => (ax, listOf vs.toArray nn) ∈ nx ∧ KeepJ x m₀ news m' nx) own s₁ { s₁ with heap := h', toks := tk } :=
  ⟨h', tk, m', news ++ own, news, rfl, F, N, fun p hp => List.mem_append.mpr (.inl hp), fun p hp => List.mem_append.mpr (.inr hp), hoff, hm, hz, rfl⟩
end
theorem tail_of {x : Str} (h : x = Str.ofString "" ∨ x = Str.ofString "\"" ∨ x = Str.ofString "\" a\"b") : ∃ t, x = tx t ∧ Tail t ∧ t.length ≤ 10 := by
  rcases h with rfl | rfl | rfl
  · exact ⟨[], rfl, .inl rfl, by decide⟩
  · exact ⟨[34], rfl, .inr ⟨[], rfl, trivial⟩, by decide⟩
  · exact ⟨[34, 32, 97, 34, 98], rfl, .inr ⟨[32, 97, 34, 98], rfl, by show (32 : Nat) ≠ 34; decide⟩, by decide⟩

theorem four_nums {l : List Int} (h : l.length = 4) (hb : ∀ n ∈ l, -1000000 ≤ n ∧ n ≤ 1000000) : ∃ a b c d, l = [a, b, c, d] ∧ (-1000000 ≤ a ∧ a ≤ 1000000) ∧ (-1000000 ≤ b ∧ b ≤ 1000000) ∧ (-1000000 ≤ c ∧ c ≤ 1000000) ∧ (-1000000 ≤ d ∧ d ≤ 1000000) := by
  match l, h with
  | [a, b, c, d], _ => exact ⟨a, b, c, d, rfl, hb a (by simp), hb b (by simp), hb c (by simp), hb d (by simp)⟩
theorem four_marks {l : List Int} (h : l.length = 4) (hb : ∀ n ∈ l, 0 ≤ n ∧ n < 5) : ∃ m0 m1 m2 m3 : Nat, l = [(m0 : Int), (m1 : Int), (m2 : Int), (m3 : Int)] ∧ m0 < 5 ∧ m1 < 5 ∧ m2 < 5 ∧ m3 < 5 := by
  match l, h with
  | [a, b, c, d], _ =>
    have ha := hb a (by simp)
    have hb' := hb b (by simp)
    have hc := hb c (by simp)
    have hd := hb d (by simp)
    refine ⟨a.toNat, b.toNat, c.toNat, d.toNat, ?_, by omega, by omega, by omega, by omega⟩
    rw [Int.toNat_of_nonneg ha.1, Int.toNat_of_nonneg hb'.1, Int.toNat_of_nonneg hc.1, Int.toNat_of_nonneg hd.1]
def OkN (n : Nat) (e : Ch) : Prop := e.1 ≤ 4 * n ∧ -(1000000 * (n : Int)) ≤ e.2 ∧ e.2 ≤ 1000000 * (n : Int)
theorem OkN.add {m n : Nat} {x y : Nat} {a b : Int} (h : OkN m (x, a)) (k : OkN n (y, b)) : OkN (m + n) (x + y, a + b) := by
  unfold OkN at *
  simp only at *
  omega
theorem OkN.one {x : Nat} {a : Int} (h : x < 5) (k : -1000000 ≤ a ∧ a ≤ 1000000) : OkN 1 (x, a) := by
  unfold OkN
  simp only
  omega
theorem OkN.fin {n : Nat} {e : Ch} (h : OkN n e) (hn : n ≤ 4) : e.1 ≤ 16 ∧ -4000000 ≤ e.2 ∧ e.2 ≤ 4000000 := by
  unfold OkN at h
  omega
theorem OkN.all {l : List Ch} (h : ∀ e ∈ l, ∃ n, n ≤ 4 ∧ OkN n e) : ChsOk l := fun e he => by
  obtain ⟨n, hn, hk⟩ := h e he
  exact hk.fin hn
theorem chs_ok {m0 m1 m2 m3 : Nat} {a b c d : Int} (h0 : m0 < 5) (h1 : m1 < 5) (h2 : m2 < 5) (h3 : m3 < 5) (ha : -1000000 ≤ a ∧ a ≤ 1000000) (hb : -1000000 ≤ b ∧ b ≤ 1000000) (hc : -1000000 ≤ c ∧ c ≤ 1000000) (hd : -1000000 ≤ d ∧ d ≤ 1000000) : ChsOk (chs m0 m1 m2 m3 a b c d) := by
  have p := OkN.one h0 ha
  have q := OkN.one h1 hb
  have r := OkN.one h2 hc
  have t := OkN.one h3 hd
  clear h0 h1 h2 h3 ha hb hc hd
  have z : OkN 0 (0, 0) := ⟨by decide, by decide, by decide⟩
  unfold chs
  refine OkN.all (List.forall_mem_cons.mpr ⟨⟨_, by decide, z⟩, List.forall_mem_cons.mpr ⟨⟨_, by decide, p⟩, List.forall_mem_cons.mpr ⟨⟨_, by decide, q⟩, List.forall_mem_cons.mpr ⟨⟨_, by decide, p.add q⟩, List.forall_mem_cons.mpr ⟨⟨_, by decide, r⟩, List.forall_mem_cons.mpr ⟨⟨_, by decide, p.add r⟩, List.forall_mem_cons.mpr ⟨⟨_, by decide, q.add r⟩, List.forall_mem_cons.mpr ⟨⟨_, by decide, (p.add q).add r⟩, List.forall_mem_cons.mpr ⟨⟨_, by decide, t⟩, List.forall_mem_cons.mpr ⟨⟨_, by decide, p.add t⟩, List.forall_mem_cons.mpr ⟨⟨_, by decide, q.add t⟩, List.forall_mem_cons.mpr ⟨⟨_, by decide, (p.add q).add t⟩, List.forall_mem_cons.mpr ⟨⟨_, by decide, r.add t⟩, List.forall_mem_cons.mpr ⟨⟨_, by decide, (p.add r).add t⟩, List.forall_mem_cons.mpr ⟨⟨_, by decide, (q.add r).add t⟩, List.forall_mem_cons.mpr ⟨⟨_, by decide, ((p.add q).add r).add t⟩, fun _ h9 => nomatch h9⟩⟩⟩⟩⟩⟩⟩⟩⟩⟩⟩⟩⟩⟩⟩⟩)
def Even2 (n : Nat) : Prop := n % 2 = 0
local macro_rules | `(tactic| walk_at "mine len") => `(tactic| (k_here; (with_reducible show wpAny _ _ (call (Value.builtin _) [Value.ref _]) _ _ _); k_dflt (refine' len_I ?k1 ?k2 ?k3 ?k4 ?kr; (case k1 => k_asm); (case k2 => k_mem); (case k3 => assumption); (case k4 => first | assumption | omega)); (try dsimp only); (try k_fold)))
local macro_rules | `(tactic| walk_at "call builtin:len") => `(tactic| walk_at "mine len")
def dueK (l : List Int) (k : Nat) : Int := (List.range k).foldl (fun (s : Int) (k : Nat) => s * (-((k : Int) + 1) * l.getD k 0)) (-(2 ^ (4 - l.length)))
theorem dueK_succ (l : List Int) (k : Nat) : dueK l (k + 1) = dueK l k * (-((k : Int) + 1) * l.getD k 0) := by
  unfold dueK; rw [List.range_succ, List.foldl_append]; rfl
theorem due_first {l : List Int} (h : l.length ≤ 4) : -2 ^ ((4 : Int) - (l.length : Int)).toNat = dueK l 0 := by
  have e : ((4 : Int) - (l.length : Int)).toNat = 4 - l.length := by omega
  rw [e]; rfl
theorem mul_small {i : Nat} {d x : Int} (hi : i < 4) (hx : -1000000 ≤ x ∧ x ≤ 1000000) : IntMulOk d (-(0 + (i : Int) * 1 + 1) * x) := by
  refine IntMulOk.of_right ?_
  have h : i = 0 ∨ i = 1 ∨ i = 2 ∨ i = 3 := by omega
  rcases h with rfl | rfl | rfl | rfl <;> exact PySem.intBits_le_64 (by omega) (by omega)
theorem range_from_one (n : Nat) : Builtin.Range.rangeSize 1 ((n : Int) + 1) 1 = (n : Int) := by
  unfold Builtin.Range.rangeSize
  simp
  omega
def mvP (lv : Int → Int) (P : List Int) (pw k : Nat) : Int := ((List.range k).map fun j => lv (P.getD j 0) * (P.getD (j + 1) 0 ^ pw - P.getD j 0 ^ pw)).sum
theorem mvP_succ (lv : Int → Int) (P : List Int) (pw k : Nat) : mvP lv P pw (k + 1) = mvP lv P pw k + lv (P.getD k 0) * (P.getD (k + 1) 0 ^ pw - P.getD k 0 ^ pw) := by
  unfold mvP; rw [List.range_succ, List.map_append, List.sum_append]; simp
theorem mvP_all (lv : Int → Int) (pw : Nat) {P : List Int} (h : P.length = 16) : mvP lv P pw 15 = mv lv (fun x => x ^ pw) P := (mv_at lv (fun x => x ^ pw) P 15 h).symm
theorem map_bound {lv : Int → Int} (h : ∀ x, -16 ≤ lv x ∧ lv x ≤ 16) (P : List Int) (k : Nat) (hk : k < P.length) : -16 ≤ (P.map lv).getD k 0 ∧ (P.map lv).getD k 0 ≤ 16 := by
  have e : (P.map lv).getD k 0 = lv P[k] := by simp [hk]
  rw [e]; exact h _

theorem known5 {m : Str → Option Value} {a b c d e : Str} {va vb vc vd ve : Value} (ha : m a = some va) (hb : m b = some vb) (hc : m c = some vc) (hd : m d = some vd) (he : m e = some ve) :
    m = fun y => if y = a then some va else if y = b then some vb else if y = c then some vc else if y = d then some vd else if y = e then some ve else m y := by
  funext y
  by_cases h1 : y = a
  · subst h1; simp [ha]
  rw [if_neg h1]
  by_cases h2 : y = b
  · subst h2; simp [hb]
  rw [if_neg h2]
  by_cases h3 : y = c
  · subst h3; simp [hc]
  rw [if_neg h3]
  by_cases h4 : y = d
  · subst h4; simp [hd]
  rw [if_neg h4]
  by_cases h5 : y = e
  · subst h5; simp [he]
  rw [if_neg h5]
theorem lev_last {lv : Int → Int} {P : List Int} (h : P.length = 16) : (P.map lv).getD (Int.toNat 15) 0 = lv (lastD P) := by
  have hk : 15 < P.length := by omega
  show (P.map lv).getD 15 0 = _
  rw [List.getD_eq_getElem?_getD, List.getElem?_map, List.getElem?_eq_getElem hk]
  show lv P[15] = lv (lastD P)
  unfold lastD
  rw [List.getLastD_eq_getLast?, List.getLast?_eq_getElem?, h, List.getElem?_eq_getElem hk]
  rfl
theorem bools_carried : ∀ bs : List Bool, CarriedAll (bs.map Value.bool) (bs.map PyData.bool)
  | [] => .nil
  | b :: r => .cons (.bool b) (bools_carried r)
theorem bools_canLay : ∀ bs : List Bool, PyData.canLayAll0 (bs.map PyData.bool) = true
  | [] => rfl
  | _ :: r => by simp [PyData.canLayAll0, PyData.canLay0, bools_canLay r]
theorem bools_depth : ∀ bs : List Bool, PyData.depthAll (bs.map PyData.bool) = 0
  | [] => rfl
  | _ :: r => by simp [PyData.depthAll, PyData.depth, bools_depth r]
theorem bools_shaped (bs : List Bool) : SeqAt.shaped (.list (bs.map PyData.bool)) = true := by
  simp [SeqAt.shaped, PyData.canLay0, PyData.depth, bools_canLay, bools_depth]
theorem bools_nil (bs : List Bool) : PySem.Spec.same (.list (bs.map PyData.bool)) (.list []) = decide (bs = []) := by
  cases bs <;> simp [PySem.Spec.same, PySem.Spec.sameAll]
section
variable {prog : Program} {w : World} {A : Around} {E : Value → Shared → Prop} {s : Shared} {a b : Addr} {h₀ : Heap} {L : Addr} {news : List (Addr × Obj)} {Q : Value → Shared → Prop}
theorem eq_bools_nil {bs : List Bool} (ha : s.heap.IsList a (bs.map Value.bool).toArray) (hb : s.heap.IsList b ([] : List Value).toArray) (hu : A.units + 64 < cLine) (h : Q (.bool (decide (bs = []))) s) :
    wpAny (model prog w) A (compareOp .Eq (.ref a) (.ref b)) Q E s :=
  eq_dataH_same (reads_newData ha (bools_carried bs)) (reads_newData hb .nil) (bools_shaped bs) (bools_shaped []) hu (SeqAt.noMix_of_shape (.list .bool) rfl _ _ (list_map_has fun _ => rfl) (list_map_has (g := PyData.bool) (l := ([] : List Bool)) fun _ => rfl)) (by rw [bools_nil]; exact h)
theorem bool_last {value slice : Expr} {l : Addr} {nn : Nat} {bs : List Bool} {u : Tok} (N : News h₀ L s.heap news) (hm : (l, listOf (bs.map Value.bool).toArray nn) ∈ news) {b : Bool} (hb : bs.getLast? = some b)
    (h : Q (.bool b) s)
    (hs : subscripted slice false (.ref l) (.int (-1) u) = operate [.ref l, .int (-1) u] (getItem (.ref l) (.int (-1) u)) := by with_unfolding_all rfl) (hg : ∀ r, letTemporaryGo value (.ref l) r = pure () := by intro _; with_unfolding_all rfl) :
    wpAny (model prog w) A (subscriptTail value slice (.ref l) (.int (-1) u)) Q E s := by
  have hne : bs ≠ [] := by rintro rfl; simp at hb
  have hp : 0 < bs.length := List.length_pos_iff.mpr hne
  refine kim_back (l := bs.map Value.bool) N hm rfl rfl (by decide) (by rw [List.length_map]; omega) (by decide) (x := .bool b) ?_ h hs hg
  have e : ((-1 : Int) + ((bs.map Value.bool).length : Int)).toNat = bs.length - 1 := by rw [List.length_map]; omega
  rw [e, List.getElem?_map, ← List.getLast?_eq_getElem?, hb]
  rfl
end
theorem sides_len : ∀ (vs : List Int) (s : List Bool), (vs.foldl sideStep s).length ≤ s.length + vs.length
  | [], s => by simp
  | v :: r, s => by
    rw [List.foldl_cons]
    have h := sides_len r (sideStep s v)
    have h2 : (sideStep s v).length ≤ s.length + 1 := by unfold sideStep; split <;> simp
    rw [List.length_cons]; omega
theorem bools_push {bs : List Bool} {b : Bool} : ((bs.map Value.bool).toArray.push (Value.bool b)) = ((bs ++ [b]).map Value.bool).toArray := by simp
theorem side_add {s : List Bool} {v : Int} (hv : v ≠ 0) (h : s = [] ∨ s.getLast? ≠ some (decide (0 < v))) : [v].foldl sideStep s = s ++ [decide (0 < v)] := by
  show sideStep s v = _
  unfold sideStep
  rw [if_pos ⟨hv, h⟩]
theorem side_keep {s : List Bool} {v : Int} (hs : s ≠ []) (h : s.getLast? = some (decide (0 < v))) : [v].foldl sideStep s = s := by
  show sideStep s v = _
  unfold sideStep
  rw [if_neg (by rintro ⟨_, q | q⟩; exact hs q; exact q h)]
theorem name_addr {R : List (Addr × Obj)} {a : Addr} (h : ∀ p : Addr × Obj, p ∈ R → p.1 < a) : ∃ b, b = a ∧ ∀ p : Addr × Obj, p ∈ R → p.1 < b := ⟨a, rfl, h⟩
theorem bools_are : ∀ bs : List Bool, PyProof.Rows.LSm.BoolsAre (bs.map Value.bool) bs
  | [] => .nil
  | b :: r => .cons b (bools_are r)
local macro_rules | `(tactic| walk_at "mine sub bool") => `(tactic| (k_here; (with_reducible show wpAny _ _ (subscriptTail _ _ (Value.ref _) (Value.int (-1) _)) _ _ _); k_dflt ((with_unfolding_all refine' bool_last ?k1 ?k2 ?k3 ?_); (case k1 => k_asm); (case k2 => k_mem); (case k3 => assumption)); (try dsimp only); (try k_fold)))
local macro_rules | `(tactic| walk_at "subscriptTail Name") => `(tactic| walk_at "mine sub bool")
local macro_rules | `(tactic| walk_at "mine len bool") => `(tactic| (k_here; (with_reducible show wpAny _ _ (call (Value.builtin _) [Value.ref _]) _ _ _); k_dflt (refine' kbo_len ?k1 ?k2 ?k3 ?k4 ?kr; (case k1 => k_asm); (case k2 => k_mem); (case k3 => assumption); (case k4 => first | assumption | omega)); (try dsimp only); (try k_fold)))
local macro_rules | `(tactic| walk_at "call builtin:len") => `(tactic| walk_at "mine len bool")
theorem parse_sum (w : World) (loose : List Str) (mean : ExcName → Option Value) (mg mb : Str → Option Value) (news : List (Addr × Obj)) (a b l : Nat) (t : List Nat) (t0 : Tok) (ha : a ≤ 16) (hb : b ≤ 4) (he : Even2 (a + b)) (hl : 97 ≤ l ∧ l ≤ 122) (ht : Tail t) (htl : t.length ≤ 10) :
    Con w loose mean mg mb 70 news [.str (Str.ofString "257 \"" ++ Txt.mul (Str.ofString "\"") ((a : Int) + (b : Int)) ++ tx [l] ++ tx t) t0] 1 (fun v n' => n' = news ∧ ∃ tk, v = .str (tx (rep ((a + b) / 2) ++ [l])) tk) := by
  rw [show (a : Int) + (b : Int) = ((a + b : Nat) : Int) by omega, asked_one]
  have h := parse_ok w loose mean mg mb news (tx ([50, 53, 55, 32, 34] ++ (rep (a + b) ++ (l :: t)))) t0 (by rw [tx_len]; simp [rep_len]; omega) (by rw [tx_len]; simp) (by rw [tx_cps]; rfl)
  rw [tx_cps, told_one (by omega) ht, if_pos (show (a + b) % 2 = 0 from he)] at h
  exact h
theorem told_sum (a b l : Nat) : (tx (rep ((a + b) / 2) ++ [l]) == Txt.mul (Str.ofString "\"") (((a : Int) + (b : Int)).fdiv 2) ++ tx [l]) = true := by
  rw [show (a : Int) + (b : Int) = ((a + b : Nat) : Int) by omega, mul_half, tx_app]
  exact beq_self_eq_true _
local macro_rules | `(tactic| walk_at "mine use 1") => `(tactic| (k_here; (with_reducible show wpAny _ _ (call (Value.ref 70) [Value.str _ _]) _ _ _); k_dflt ((refine' Con.use (parse_sum _ _ _ _ _ _ _ _ _ _ _ ?c1 ?c2 ?c3 ?c4 ?c5 ?c6) ?k1 ?k2 ?k3 ?k4 ?k5 ?kK ?kd ?ku ?kr); (case k1 => k_asm); (case k2 => k_asm); (case k3 => k_asm); (case k4 => k_asm); (case k5 => k_asm); (case kK => first | exact rfl | assumption); (case kd => ktr_room); (case ku => ktr_units); (case c1 => assumption); (case c2 => assumption); (case c3 => assumption); (case c4 => assumption); (case c5 => assumption); (case c6 => assumption); intro v9 n9 h9 tk9 F9 N9 P9; (obtain ⟨e9, t9, f9⟩ := P9); (replace e9 := e9.symm); (subst e9); (subst f9)); (try dsimp only); (try k_fold)))
/-- the law from its answers on -/
theorem law_out (w : World) (loose : List Str) (mean : ExcName → Option Value) (mg mb : Str → Option Value) (a : Addr) (ccd : Value) (base h₀ : Heap) (L : Addr) (mm : Str → Option Value) (s : Shared) (Z : Result → Shared → Prop)
    (cL : Nat) (tkl : Tok) (tl : List Nat) (tkt : Tok) (dt : Tok) (lE lO lL lD : Addr) (evs9 ods9 lvs odv : List Value) (en on ln dn : Nat) (E O P od : List Int) (lv : Int → Int) (oE oO : Obj) (R : List (Addr × Obj))
    (B : Below callerA base [] h₀) (F₀ : Fr h₀ L s.heap mm)
    (k1 : mm (Str.ofString "odd") = some (.ref lD)) (k2 : mm (Str.ofString "levels") = some (.ref lL)) (k3 : mm (Str.ofString "due") = some (.int (dueZ od) dt)) (k4 : mm (Str.ofString "tail") = some (.str (tx tl) tkt)) (k5 : mm (Str.ofString "letter") = some (.str (tx [cL]) tkl))
    (X : (Mine.heapK w.params).In h₀) (T : Top viewK loose mean mg mb h₀) (N : News h₀ L s.heap R)
    (hE : (L + 1 + 1 + 1 + 1, oE) ∈ R) (dE : oE.data = .cell (some (.ref lE))) (hlE : (lE, listOf evs9.toArray en) ∈ R) (hiE : IntsAre evs9 E)
    (hO : (L + 1 + 1 + 1 + 1 + 1, oO) ∈ R) (dO : oO.data = .cell (some (.ref lO))) (hlO : (lO, listOf ods9.toArray on) ∈ R) (hiO : IntsAre ods9 O)
    (hlL : (lL, listOf lvs.toArray ln) ∈ R) (hiL : IntsAre lvs (P.map lv)) (hlD : (lD, listOf odv.toArray dn) ∈ R) (hiD : IntsAre odv od)
    (hl97 : 97 ≤ cL ∧ cL ≤ 122) (htl : Tail tl) (htl10 : tl.length ≤ 10) (hP16 : P.length = 16) (hlvb : ∀ x, -16 ≤ lv x ∧ lv x ≤ 16) (hodl : od.length ≤ 4)
    (flast : od ≠ [] → lv (lastD P) = 0) (fnil : od = [] → (∀ x ∈ P, 0 < lv x) ∧ lv (lastD P) = 16)
    (fsame : dueZ od = 0 → E = O) (fside : dueZ od ≠ 0 → od ≠ [] → ((sidesOf (P.map lv)).length + od.length) % 2 = 0)
    (hZ : ∀ h' tk' m', Fr h₀ L h' m' → Z (.ok (.ret (.bool true))) { s with heap := h', toks := tk' }) :
    wpAny (model PySem.Challenge.rw_ux0026_02.row.prog w) (callerA.deeper (envOfC (Str.ofString "law") f22s L a ccd)) (execs (f22b.drop 19) (envOfC (Str.ofString "law") f22s L a ccd)) (fun f s' => Z (.ok (.ret (match f with | .ret v => v | _ => .none))) s')
      (fun e s' => wpAny (model PySem.Challenge.rw_ux0026_02.row.prog w) (callerA.deeper (envOfC (Str.ofString "law") f22s L a ccd)) (leaving (envOfC (Str.ofString "law") f22s L a ccd) e) (fun _ s'' => Z (.error e) s'') (fun e' s'' => Z (.error e') s'') s') s := by
  have F : Fr h₀ L s.heap (fun y => if y = Str.ofString "odd" then some (.ref lD) else if y = Str.ofString "levels" then some (.ref lL) else if y = Str.ofString "due" then some (.int (dueZ od) dt) else if y = Str.ofString "tail" then some (.str (tx tl) tkt) else if y = Str.ofString "letter" then some (.str (tx [cL]) tkl) else mm y) :=
    known5 k1 k2 k3 k4 k5 ▸ F₀
  clear F₀ k1 k2 k3 k4 k5
  have hlast := lev_last (lv := lv) hP16
  have hlen : (P.map lv).length = 16 := by rw [List.length_map, hP16]
  have hlen0 : 0 < (P.map lv).length := by omega
  have hpos : od = [] → ∀ x ∈ P.map lv, 0 < x := fun h x hx => by
    obtain ⟨y, hy, rfl⟩ := List.mem_map.mp hx
    exact (fnil h).1 y hy
  have h16 : od = [] → (P.map lv).getD (Int.toNat 15) 0 = 16 := fun h => by rw [hlast]; exact (fnil h).2
  have h0 : od ≠ [] → (P.map lv).getD (Int.toNat 15) 0 = 0 := fun h => by rw [hlast]; exact flast h
  clear hlast flast fnil hlvb hP16
  generalize P.map lv = LV at *
  revert X
  k_fill
  intro X
  k_with_none
  delta f22b f22s
  simp only [List.drop]
  w_strict (repeat' ((fail_if_success (with_reducible show wpAny _ _ (compareOp _ (Value.ref _) (Value.ref _)) _ _ _)); first | (k_unfold; (try dsimp only)) | (k_end; wrow_close) | walk1 | (dsimp only; walk1) | (leave1; walk_say "STEP leave1"; try dsimp only) | fail "no step"))
  rename (∀ p : Addr × Obj, p ∈ R → p.1 < _) => hl9
  rename Fr _ _ _ _ => F9
  rename News _ _ _ _ => N9
  refine ke_eq_ints (xs := odv) (ys := []) (ns := od) (ms := []) ⟨_, (N9 _ (List.Mem.tail _ hlD)).1, rfl, _, rfl⟩ ⟨_, (N9 _ (List.Mem.head _)).1, rfl, _, rfl⟩ hiD .nil (by ktr_units) ?_
  replace N9 := cb_drop N9 (news := R) (fun p hp => List.Mem.tail _ hp)
  clear hl9
  by_cases hod0 : od = []
  · rw [show decide (od = []) = true from by simpa using hod0]
    have h16 := h16 hod0
    have hpos := hpos hod0
    clear h0 fside fsame
    k_unmd
    try k_fold
    w_strict (repeat' ((fail_if_success (with_reducible show wpAny _ _ (compareOp _ (Value.ref _) (Value.ref _)) _ _ _)); first | (k_unfold; (try dsimp only)) | (k_end; wrow_close) | walk1 | (dsimp only; walk1) | (leave1; walk_say "STEP leave1"; try dsimp only) | fail "no step"))
    rename Fr _ _ _ _ => F8
    rename News _ _ _ _ => N8
    refine kso_min F8 N8 ⟨_, (N8 _ hlL).1, rfl, _, rfl⟩ hiL hlen0 rfl (fun h7 M t7 k7 F7 N7 hM hMa => ?_)
    have hM0 := hpos M hM
    clear F8 N8 hMa
    k_unmd
    try k_fold
    w_strict (repeat' ((fail_if_success (with_reducible show wpAny _ _ (compareOp _ (Value.ref _) (Value.ref _)) _ _ _)); first | (k_unfold; (try dsimp only)) | (k_end; wrow_close) | walk1 | (dsimp only; walk1) | (leave1; walk_say "STEP leave1"; try dsimp only) | fail "no step"))
    rw [h16]
    exact hZ _ _ _ (by assumption)
  · rw [show decide (od = []) = false from by simpa using hod0]
    have h0 := h0 hod0
    replace fside := fun h => fside h hod0
    clear h16 hpos
    k_unmd
    try k_fold
    w_strict (repeat' ((fail_if_success (with_reducible show wpAny _ _ (compareOp _ (Value.ref _) (Value.ref _)) _ _ _)); (fail_if_success (with_reducible show wpAny _ _ (pyIter _) _ _ _)); first | (k_unfold; (try dsimp only)) | (k_end; wrow_close) | walk1 | (dsimp only; walk1) | (leave1; walk_say "STEP leave1"; try dsimp only) | fail "no step"))
    · rename LV.getD _ _ ≠ 0 => h9
      exact absurd h0 h9
    · rename dueZ od = 0 => hdz
      rename Fr _ _ _ _ => F8
      rename News _ _ _ _ => N8
      refine ke_eq_ints (xs := evs9) (ys := ods9) (ns := E) (ms := O) ⟨_, (N8 _ hlE).1, rfl, _, rfl⟩ ⟨_, (N8 _ hlO).1, rfl, _, rfl⟩ hiE hiO (by ktr_units) ?_
      rw [show decide (E = O) = true from by simpa using fsame hdz]
      k_unmd
      try k_fold
      w_strict (repeat' ((fail_if_success (with_reducible show wpAny _ _ (compareOp _ (Value.ref _) (Value.ref _)) _ _ _)); first | (k_unfold; (try dsimp only)) | (k_end; wrow_close) | walk1 | (dsimp only; walk1) | (leave1; walk_say "STEP leave1"; try dsimp only) | fail "no step"))
      exact hZ _ _ _ (by assumption)
    · rename ¬ dueZ od = 0 => hdz
      replace fside : Even2 ((sidesOf LV).length + od.length) := fside hdz
      rename Fr _ _ _ _ => lF
      rename News _ _ _ _ => lN
      rename (∀ p : Addr × Obj, p ∈ R → p.1 < _) => hl9
      obtain ⟨lS, elS, hl9⟩ := name_addr hl9
      subst elS
      with_unfolding_all refine' kd_listI (σ := List Bool × Nat) (fun c => [(lS, listOf (c.1.map Value.bool).toArray c.2)]) R (fun _ => []) (fun led c => True) [] (fun pre c => c.1 = pre.foldl sideStep []) (lS :: R.map (·.1)) ([], 0)  (by rfl) hlL hiL lF lN ?hn (fun _ => rfl) trivial (fun _ h9 => nomatch h9) rfl ?turnS ?doneS
      case hn => exact fun p hp => by simpa using hp
      case turnS =>
        rintro ⟨bs, n3⟩ tl3 pre3 post3 x tx3 u3 h3 tk3 own3 hx hxm hsep3 hoff3 - hP3 F3 N3
        clear lF lN
        dsimp only at *
        have N4 : News _ _ h3 ((lS, listOf (bs.map Value.bool).toArray n3) :: (R ++ (tl3 ++ own3))) := N3
        have hoffR3 : ∀ p ∈ R ++ (tl3 ++ own3), p.1 ≠ lS := fun p hp => (List.mem_append.mp hp).elim (fun h9 => Nat.ne_of_lt (hl9 p h9)) (hoff3.ne List.mem_cons_self p)
        clear N3
        have hb15 : bs.length ≤ 16 := by
          have h9 := congrArg List.length hx
          rw [List.length_append, List.length_cons] at h9
          have := sides_len pre3 []
          rw [hP3]; simp at this; omega
        k_unmd
        try k_fold
        w_strict (repeat' ((fail_if_success (with_reducible show wpAny _ _ (compareOp _ (Value.ref _) (Value.ref _)) _ _ _)); first | (k_unfold; (try dsimp only)) | (k_end; wrow_close) | walk1 | (dsimp only; walk1) | (leave1; walk_say "STEP leave1"; try dsimp only) | fail "no step"))
        · rename x ≠ 0 => hx0
          rename Fr _ _ _ _ => F8
          rename News _ _ _ _ => N8
          refine eq_bools_nil (bs := bs) ⟨_, (N8 _ (List.Mem.tail _ (List.Mem.head _))).1, rfl, _, rfl⟩ ⟨_, (N8 _ (List.Mem.head _)).1, rfl, _, rfl⟩ (by ktr_units) ?_
          replace N8 := cb_drop N8 (news := (lS, listOf (bs.map Value.bool).toArray n3) :: (R ++ (tl3 ++ own3))) (fun p hp => List.Mem.tail _ hp)
          by_cases hbs : bs = []
          · rw [show decide (bs = []) = true from by simpa using hbs]
            k_unmd
            try k_fold
            w_strict (repeat' ((fail_if_success (with_reducible show wpAny _ _ (compareOp _ (Value.ref _) (Value.ref _)) _ _ _)); first | (k_unfold; (try dsimp only)) | (k_end; wrow_close) | walk1 | (dsimp only; walk1) | (leave1; walk_say "STEP leave1"; try dsimp only) | fail "no step"))
            refine' kd_end (bs ++ [decide (0 < x)], n3 + 1) [] hsep3 ?aF4 ?aN4 ?aM4 ?aO4 rfl (fun _ h9 => nomatch h9) (fun _ h9 => nomatch h9) (fun _ h9 => nomatch h9) ?hrS1 trivial ?hpS1
            case aF4 => assumption
            case aN4 => assumption
            case aM4 => exact fun p hp => mem_fix (bools_push ▸ hp)
            case aO4 => exact fun p hp => mem_own hp
            case hrS1 => (intro z h1 h2 h3; simp only [List.forall_mem_cons, List.not_mem_nil, false_implies, implies_true, and_true, ne_eq] at h2; simp only [List.contains_cons, List.contains_nil, Bool.or_false, Bool.or_eq_false_iff, beq_eq_false_iff_ne, ne_eq] at h3; simp [kstB, h1, h2, h3])
            case hpS1 =>
              show bs ++ [decide (0 < x)] = _
              rw [List.foldl_append, ← hP3]
              exact (side_add hx0 (.inl hbs)).symm
          · rw [show decide (bs = []) = false from by simpa using hbs]
            obtain ⟨b, hb⟩ : ∃ b, bs.getLast? = some b := by
              cases h : bs.getLast? with
              | none => exact absurd (List.getLast?_eq_none_iff.mp h) hbs
              | some b => exact ⟨b, rfl⟩
            k_unmd
            try k_fold
            w_strict (repeat' ((fail_if_success (with_reducible show wpAny _ _ (compareOp _ (Value.ref _) (Value.ref _)) _ _ _)); first | (k_unfold; (try dsimp only)) | (k_end; wrow_close) | walk1 | (dsimp only; walk1) | (leave1; walk_say "STEP leave1"; try dsimp only) | fail "no step"))
            · rename (decide (0 < x) != b) = true => hne
              refine' kd_end (bs ++ [decide (0 < x)], n3 + 1) [] hsep3 ?aF5 ?aN5 ?aM5 ?aO5 rfl (fun _ h9 => nomatch h9) (fun _ h9 => nomatch h9) (fun _ h9 => nomatch h9) ?hrS2 trivial ?hpS2
              case aF5 => assumption
              case aN5 => assumption
              case aM5 => exact fun p hp => mem_fix (bools_push ▸ hp)
              case aO5 => exact fun p hp => mem_own hp
              case hrS2 => (intro z h1 h2 h3; simp only [List.forall_mem_cons, List.not_mem_nil, false_implies, implies_true, and_true, ne_eq] at h2; simp only [List.contains_cons, List.contains_nil, Bool.or_false, Bool.or_eq_false_iff, beq_eq_false_iff_ne, ne_eq] at h3; simp [kstB, h1, h2, h3])
              case hpS2 =>
                show bs ++ [decide (0 < x)] = _
                rw [List.foldl_append, ← hP3]
                exact (side_add hx0 (.inr (by rw [hb]; intro e; cases e; simp at hne))).symm
            · rename (decide (0 < x) != b) = false => hne
              refine kd_end (bs, n3) [] hsep3 (by assumption) N8 (by exact fun p hp => mem_fix hp) (fun p hp => mem_own hp) rfl (fun _ h9 => nomatch h9) (fun _ h9 => nomatch h9) (fun _ h9 => nomatch h9) ?hrS3 trivial ?hpS3
              case hrS3 => (intro z h1 h2 h3; simp only [List.forall_mem_cons, List.not_mem_nil, false_implies, implies_true, and_true, ne_eq] at h2; simp only [List.contains_cons, List.contains_nil, Bool.or_false, Bool.or_eq_false_iff, beq_eq_false_iff_ne, ne_eq] at h3; simp [kstB, h1, h2, h3])
              case hpS3 =>
                show bs = _
                rw [List.foldl_append, ← hP3]
                exact (side_keep hbs (by rw [hb]; simp at hne; rw [← hne])).symm
        · rename x = 0 => hx0
          refine kd_end (bs, n3) [] hsep3 (by assumption) N4 (by exact fun p hp => mem_fix hp) (fun p hp => mem_own hp) rfl (fun _ h9 => nomatch h9) (fun _ h9 => nomatch h9) (fun _ h9 => nomatch h9) ?hrS trivial ?hpS
          case hrS => (intro z h1 h2 h3; simp only [List.forall_mem_cons, List.not_mem_nil, false_implies, implies_true, and_true, ne_eq] at h2; simp only [List.contains_cons, List.contains_nil, Bool.or_false, Bool.or_eq_false_iff, beq_eq_false_iff_ne, ne_eq] at h3; simp [kstB, h1, h2, h3])
          case hpS =>
            show bs = _
            rw [List.foldl_append, ← hP3]
            exact (side_zero hx0).symm
      case doneS =>
        rintro ⟨bs, n3⟩ tl3 u3 h3 tk3 hoff3 - hP3 F3 N3
        clear lF lN
        dsimp only at *
        have N4 : News _ _ h3 ((lS, listOf (bs.map Value.bool).toArray n3) :: (R ++ tl3)) := N3
        clear N3
        have hbl : bs.length ≤ 16 := by rw [hP3]; have := sides_len LV []; simp at this; omega
        have hbA := bools_are bs
        have hbl62 : bs.length < 2 ^ 62 := by omega
        replace hlD : (lD, listOf odv.toArray dn) ∈ R ++ tl3 := List.mem_append.mpr (.inl hlD)
        have hev : Even2 (bs.length + od.length) := by rw [hP3]; exact fside
        have hll : (tx [cL]).length = 1 := rfl
        have htt : (tx tl).length ≤ 10 := by rw [tx_len]; exact htl10
        k_unmd
        try k_fold
        w_strict (repeat' (first | (k_unfold; (try dsimp only)) | (k_end; wrow_close) | walk1 | (dsimp only; walk1) | (leave1; walk_say "STEP leave1"; try dsimp only) | fail "no step"))
        rw [told_sum]
        exact hZ _ _ _ (by assumption)
end
section
open PySem PySem.W PyProof.Rows


local macro_rules | `(tactic| walk_at "mine tails") => `(tactic| (k_here; (with_reducible show wpAny _ _ (subscriptTail _ _ (Value.ref _) (Value.int _ _)) _ _ _); k_dflt ((with_unfolding_all refine' item_tails ?N ?m ?h0 ?h3 ?_); (case N => k_asm); (case m => k_mem)); (case h0 => assumption); (case h3 => assumption); intro x9 t9 hx9; (try dsimp only); (try k_fold)))
local macro_rules | `(tactic| walk_at "subscriptTail") => `(tactic| walk_at "mine tails")
local macro_rules | `(tactic| walk_at "mine len") => `(tactic| (k_here; (with_reducible show wpAny _ _ (call (Value.builtin _) [Value.ref _]) _ _ _); k_dflt (refine' len_I ?k1 ?k2 ?k3 ?k4 ?kr; (case k1 => k_asm); (case k2 => k_mem); (case k3 => assumption); (case k4 => first | assumption | omega)); (try dsimp only); (try k_fold)))
local macro_rules | `(tactic| walk_at "call builtin:len") => `(tactic| walk_at "mine len")
/-- the law from what is due on -/
theorem law_fin (w : World) (loose : List Str) (mean : ExcName → Option Value) (mg mb : Str → Option Value) (a : Addr) (ccd : Value) (base h₀ : Heap) (L : Addr) (m u2 : Str → Option Value) (s : Shared) (Z : Result → Shared → Prop)
    (cL : Nat) (tkl : Tok) (tl : List Nat) (tkt : Tok) (vA vT vC : Value) (lE lO lP lL lD : Addr) (evs9 ods9 pvs lvs odv : List Value) (en on pn ln dn : Nat) (E O P od : List Int) (lv : Int → Int) (oE oO : Obj) (R : List (Addr × Obj))
    (B : Below callerA base [] h₀) (F : Fr h₀ L s.heap (fun y => if y = Str.ofString "odd" then some (.ref lD) else if y = Str.ofString "level" then u2 y else if y = Str.ofString "levels" then some (.ref lL) else if y = Str.ofString "points" then some (.ref lP) else if y = Str.ofString "answers" then some vA else if y = Str.ofString "table" then some vT else if y = Str.ofString "choices" then some vC else if y = Str.ofString "tail" then some (.str (tx tl) tkt) else if y = Str.ofString "letter" then some (.str (tx [cL]) tkl) else m y))
    (X : (Mine.heapK w.params).In h₀) (T : Top viewK loose mean mg mb h₀) (N : News h₀ L s.heap R)
    (hE : (L + 1 + 1 + 1 + 1, oE) ∈ R) (dE : oE.data = .cell (some (.ref lE))) (hlE : (lE, listOf evs9.toArray en) ∈ R) (hiE : IntsAre evs9 E)
    (hO : (L + 1 + 1 + 1 + 1 + 1, oO) ∈ R) (dO : oO.data = .cell (some (.ref lO))) (hlO : (lO, listOf ods9.toArray on) ∈ R) (hiO : IntsAre ods9 O)
    (hlP : (lP, listOf pvs.toArray pn) ∈ R) (hiP : IntsAre pvs P) (hlL : (lL, listOf lvs.toArray ln) ∈ R) (hiL : IntsAre lvs (P.map lv)) (hlD : (lD, listOf odv.toArray dn) ∈ R) (hiD : IntsAre odv od)
    (hl97 : 97 ≤ cL ∧ cL ≤ 122) (htl : Tail tl) (htl10 : tl.length ≤ 10) (hP16 : P.length = 16) (hPb : ∀ x ∈ P, -4000000 ≤ x ∧ x ≤ 4000000) (hlvb : ∀ x, -16 ≤ lv x ∧ lv x ≤ 16) (hodl : od.length ≤ 4) (hodb : ∀ x ∈ od, -1000000 ≤ x ∧ x ≤ 1000000)
    (fless : ∀ p, 1 ≤ p → p < od.length → mv lv (fun x => x ^ p) P = 0) (fdue : od ≠ [] → mv lv (fun x => x ^ od.length) P = dueZ od) (flast : od ≠ [] → lv (lastD P) = 0) (fnil : od = [] → (∀ x ∈ P, 0 < lv x) ∧ lv (lastD P) = 16)
    (fsame : dueZ od = 0 → E = O) (fside : dueZ od ≠ 0 → od ≠ [] → ((sidesOf (P.map lv)).length + od.length) % 2 = 0)
    (hZ : ∀ h' tk' m', Fr h₀ L h' m' → Z (.ok (.ret (.bool true))) { s with heap := h', toks := tk' }) :
    wpAny (model PySem.Challenge.rw_ux0026_02.row.prog w) (callerA.deeper (envOfC (Str.ofString "law") f22s L a ccd)) (execs (f22b.drop 16) (envOfC (Str.ofString "law") f22s L a ccd)) (fun f s' => Z (.ok (.ret (match f with | .ret v => v | _ => .none))) s')
      (fun e s' => wpAny (model PySem.Challenge.rw_ux0026_02.row.prog w) (callerA.deeper (envOfC (Str.ofString "law") f22s L a ccd)) (leaving (envOfC (Str.ofString "law") f22s L a ccd) e) (fun _ s'' => Z (.error e) s'') (fun e' s'' => Z (.error e') s'') s') s := by
  revert X
  k_fill
  intro X
  k_with_none
  delta f22b f22s
  simp only [List.drop]
  w_strict (repeat' ((fail_if_success (with_reducible show wpAny _ _ (pyIter _) _ _ _)); first | (k_unfold; (try dsimp only)) | (k_end; wrow_close) | walk1 | (dsimp only; walk1) | (leave1; walk_say "STEP leave1"; try dsimp only) | fail "no step"))
  rename Fr _ _ _ _ => lF
  rename News _ _ _ _ => lN
  rename IsRange _ _ _ _ _ _ _ _ => rgX
  with_unfolding_all refine' range_F (n := od.length) (fun k (c : Int × Tok) => c.1 = dueK od k) (fun c => [(Str.ofString "due", Value.int c.1 c.2)]) [] (_, _)  (by rfl) rgX (small_one (by omega) (by omega) (by omega) (by omega)) (by exact rangeSize_nat _ _) lF lN ?hk1 ?hj1 ?turn1 ?done1
  case hk1 => kst_all
  case hj1 => exact due_first hodl
  case turn1 =>
    rintro i ⟨dc, dt⟩ tp u h1 tk1 own hi hown hc F1 N1
    dsimp only at *
    clear lF lN rgX
    have e0 : (0 + (i : Int) * 1).toNat = i := by omega
    have hx := hodb _ (getD_mem (l := od) (i := i) hi)
    have hmu : IntMulOk dc (-(0 + (i : Int) * 1 + 1) * od.getD (0 + (i : Int) * 1).toNat 0) := by
      rw [e0]; exact mul_small (by omega) hx
    k_unmd
    k_fold
    w_strict (repeat' (first | (k_unfold; (try dsimp only)) | (k_end; wrow_close) | walk1 | (dsimp only; walk1) | (leave1; walk_say "STEP leave1"; try dsimp only) | fail "no step"))
    rename Fr _ _ _ _ => FB
    rename News _ _ _ _ => NB
    refine' rng_same (dc * (-(0 + (i : Int) * 1 + 1) * od.getD (0 + (i : Int) * 1).toNat 0), _) FB NB hown ?hk2 ?hr2 ?hj2
    case hk2 => kst_all
    case hr2 => (intro z h1 h2 h3; simp only [List.forall_mem_cons, List.not_mem_nil, false_implies, implies_true, and_true, ne_eq] at h2; simp only [List.contains_cons, List.contains_nil, Bool.or_false, Bool.or_eq_false_iff, beq_eq_false_iff_ne, ne_eq] at h3; simp [kstB, h1, h2, h3])
    case hj2 =>
      show dc * (-(0 + (i : Int) * 1 + 1) * od.getD (0 + (i : Int) * 1).toNat 0) = dueK od (i + 1)
      rw [dueK_succ, hc, e0, show (0 + (i : Int) * 1 + 1) = (i : Int) + 1 by omega]
  case done1 =>
    rintro ⟨dc, dt⟩ u h1 tk1 hc F1 N1
    dsimp only at *
    clear lF lN rgX
    k_unmd
    try k_fold
    w_strict (repeat' ((fail_if_success (with_reducible show wpAny _ _ (pyIter _) _ _ _)); first | (k_unfold; (try dsimp only)) | (k_end; wrow_close) | walk1 | (dsimp only; walk1) | (leave1; walk_say "STEP leave1"; try dsimp only) | fail "no step"))
    obtain rfl : dc = dueZ od := hc
    have hLV16 : (P.map lv).length = 16 := by rw [List.length_map, hP16]
    rename Fr _ _ _ _ => lF
    rename News _ _ _ _ => lN
    rename IsRange _ _ _ _ _ _ _ _ => rgX
    with_unfolding_all refine' range_F (n := od.length) (fun k (c : Unit) => True) (fun c => []) [Str.ofString "moved", Str.ofString "place"] ()  (by rfl) rgX (small_one (by omega) (by omega) (by omega) (by omega)) (range_from_one _) lF lN ?hk3 trivial ?turn3 ?done3
    case hk3 => kst_all
    case turn3 =>
      rintro i ⟨⟩ tp u3 h3 tk3 own3 hi hown3 - F3 N3
      dsimp only at *
      clear lF lN rgX
      have hN3 : ∀ p ∈ R, p ∈ R ++ own3 := fun p hp => List.mem_append.mpr (.inl hp)
      replace hlP := hN3 _ hlP
      replace hlL := hN3 _ hlL
      replace hlD := hN3 _ hlD
      k_unmd
      k_fold
      w_strict (repeat' ((fail_if_success (with_reducible show wpAny _ _ (pyIter _) _ _ _)); first | (k_unfold; (try dsimp only)) | (k_end; wrow_close) | walk1 | (dsimp only; walk1) | (leave1; walk_say "STEP leave1"; try dsimp only) | fail "no step"))
      rename Fr _ _ _ _ => lF
      rename News _ _ _ _ => lN
      rename IsRange _ _ _ _ _ _ _ _ => rgX
      with_unfolding_all refine' range_F (n := 15) (fun k (c : Int × Tok) => c.1 = mvP lv P (i + 1) k) (fun c => [(Str.ofString "moved", Value.int c.1 c.2)]) [] (_, _)  (by rfl) rgX (by decide) (by rfl) lF lN ?hk4 ?hj4 ?turn4 ?done4
      case hk4 => kst_all
      case hj4 => rfl
      case turn4 =>
        rintro k ⟨mc, mt⟩ tp4 u4 h4 tk4 own4 hk hown4 hmc F4 N4
        dsimp only at *
        clear lF lN rgX
        have hN4 : ∀ p ∈ R ++ own3, p ∈ R ++ own3 ++ own4 := fun p hp => List.mem_append.mpr (.inl hp)
        replace hlP := hN4 _ hlP
        replace hlL := hN4 _ hlL
        have e0 : (0 + (k : Int) * 1).toNat = k := by omega
        have e1 : (0 + (k : Int) * 1 + 1).toNat = k + 1 := by omega
        have hb0 := hPb _ (getD_mem (l := P) (i := (0 + (k : Int) * 1).toNat) (by omega))
        have hb1 := hPb _ (getD_mem (l := P) (i := (0 + (k : Int) * 1 + 1).toNat) (by omega))
        have hbl := map_bound hlvb P (0 + (k : Int) * 1).toNat (by omega)
        k_unmd
        k_fold
        w_strict (repeat' (first | (k_unfold; (try dsimp only)) | (k_end; wrow_close) | walk1 | (dsimp only; walk1) | (leave1; walk_say "STEP leave1"; try dsimp only) | fail "no step"))
        rename Fr _ _ _ _ => FB
        rename News _ _ _ _ => NB
        have e2 : (1 + (i : Int) * 1).toNat = i + 1 := by omega
        have e3 : (P.map lv).getD k 0 = lv (P.getD k 0) := by
          have hk2 : k < P.length := by omega
          simp [hk2]
        refine' rng_same (mc + (P.map lv).getD (0 + (k : Int) * 1).toNat 0 * (P.getD (0 + (k : Int) * 1 + 1).toNat 0 ^ (1 + (i : Int) * 1).toNat - P.getD (0 + (k : Int) * 1).toNat 0 ^ (1 + (i : Int) * 1).toNat), _) FB NB hown4 ?hk5 ?hr5 ?hj5
        case hk5 => kst_all
        case hr5 => (intro z h1 h2 h3; simp only [List.forall_mem_cons, List.not_mem_nil, false_implies, implies_true, and_true, ne_eq] at h2; simp only [List.contains_cons, List.contains_nil, Bool.or_false, Bool.or_eq_false_iff, beq_eq_false_iff_ne, ne_eq] at h3; simp [kstB, h1, h2, h3])
        case hj5 =>
          show mc + (P.map lv).getD (0 + (k : Int) * 1).toNat 0 * (P.getD (0 + (k : Int) * 1 + 1).toNat 0 ^ (1 + (i : Int) * 1).toNat - P.getD (0 + (k : Int) * 1).toNat 0 ^ (1 + (i : Int) * 1).toNat) = mvP lv P (i + 1) (k + 1)
          rw [mvP_succ, hmc, e0, e1, e2, e3]
      case done4 =>
        rintro ⟨mc, mt⟩ u4 h4 tk4 hmc F4 N4
        dsimp only at *
        clear lF lN rgX
        rw [mvP_all _ _ hP16] at hmc
        by_cases hpw : i + 1 = od.length
        · have hmd : mc = dueZ od := by rw [hmc, hpw]; exact fdue (by intro e; rw [e] at hpw; simp at hpw)
          have hpe : (1 + (i : Int) * 1) = (od.length : Int) := by omega
          subst hmd
          k_unmd
          try k_fold
          w_strict (repeat' (first | (k_unfold; (try dsimp only)) | (k_end; wrow_close) | walk1 | (dsimp only; walk1) | (leave1; walk_say "STEP leave1"; try dsimp only) | fail "no step"))
          · rename dueZ od ≠ dueZ od => h9
            exact absurd rfl h9
          · refine' rng_same () (by assumption) (by assumption) hown3 ?hkA ?hrA ?hjA
            case hjA => trivial
            case hkA => kst_all
            case hrA => (intro z h1 h2 h3; simp only [List.forall_mem_cons, List.not_mem_nil, false_implies, implies_true, and_true, ne_eq] at h2; simp only [List.contains_cons, List.contains_nil, Bool.or_false, Bool.or_eq_false_iff, beq_eq_false_iff_ne, ne_eq] at h3; simp [kstB, h1, h2, h3])
          · exfalso; omega
        · have hmd : mc = 0 := by rw [hmc]; exact fless _ (by omega) (by omega)
          have hpe : ¬ (1 + (i : Int) * 1) = (od.length : Int) := by omega
          subst hmd
          k_unmd
          try k_fold
          w_strict (repeat' (first | (k_unfold; (try dsimp only)) | (k_end; wrow_close) | walk1 | (dsimp only; walk1) | (leave1; walk_say "STEP leave1"; try dsimp only) | fail "no step"))
          · exfalso; omega
          · refine' rng_same () (by assumption) (by assumption) hown3 ?hkB ?hrB ?hjB
            case hjB => trivial
            case hkB => kst_all
            case hrB => (intro z h1 h2 h3; simp only [List.forall_mem_cons, List.not_mem_nil, false_implies, implies_true, and_true, ne_eq] at h2; simp only [List.contains_cons, List.contains_nil, Bool.or_false, Bool.or_eq_false_iff, beq_eq_false_iff_ne, ne_eq] at h3; simp [kstB, h1, h2, h3])
    case done3 =>
      rintro ⟨⟩ u3 h3 tk3 - F3 N3
      dsimp only at *
      clear lF lN rgX
      k_unmd
      try k_fold
      w_strict (repeat' ((fail_if_success (with_reducible show wpAny _ _ (execs (Stmt.If (Expr.Compare (Expr.Name (Str.ofString "odd") _) _ _ _) _ _ _ :: _) _) _ _ _)); first | (k_unfold; (try dsimp only)) | (k_end; wrow_close) | walk1 | (dsimp only; walk1) | (leave1; walk_say "STEP leave1"; try dsimp only) | fail "no step"))
      rename Fr _ _ _ _ => F8
      rename News _ _ _ _ => N8
      exact law_out w loose mean mg mb a ccd base h₀ L _ _ Z cL _ tl _ _ lE lO lL lD evs9 ods9 lvs odv en on ln dn E O P od lv oE oO R B F8 (by rfl) (by rfl) (by rfl) (by rfl) (by rfl) X T N8 hE dE hlE hiE hO dO hlO hiO hlL hiL hlD hiD hl97 htl htl10 hP16 hlvb hodl flast fnil fsame fside hZ
end
section
open PySem PySem.W PyProof.Rows


local macro_rules | `(tactic| walk_at "mine use 1") => `(tactic| (k_here; (with_reducible show wpAny _ _ (call (Value.ref 88) [Value.ref _, Value.int _ _]) _ _ _); k_dflt ((refine' Con.use (bis_ok2 _ _ _ _ _ _ _ _ _ _ _ _ ?c1 ?c2 ?c3) ?k1 ?k2 ?k3 ?k4 ?k5 ?kK ?kd ?ku ?kr); (case k1 => k_asm); (case k2 => k_asm); (case k3 => k_asm); (case k4 => k_asm); (case k5 => k_asm); (case kK => first | exact rfl | assumption); (case kd => ktr_room); (case ku => ktr_units); (case c1 => k_mem); (case c2 => assumption); (case c3 => first | assumption | omega); intro v9 n9 h9 tk9 F9 N9 P9; (obtain ⟨e9, t9, f9⟩ := P9); (replace e9 := e9.symm); (subst e9); (subst f9)); (try dsimp only); (try k_fold)))
theorem ints_mem : ∀ {vs : List Value} {ns : List Int}, IntsAre vs ns → ∀ {v : Value}, v ∈ vs → ∃ n t, v = .int n t ∧ n ∈ ns
  | _, _, .nil, _, h => nomatch h
  | _, _, .cons n t r, v, h => by
    rcases List.mem_cons.mp h with rfl | h
    · exact ⟨n, t, rfl, List.mem_cons_self⟩
    · obtain ⟨k, u, e, hk⟩ := ints_mem r h
      exact ⟨k, u, e, List.mem_cons_of_mem _ hk⟩
theorem dec_threes : ∀ i : Fin 33, (decZ (241 + (i.val : Int))).length = 3 ∧ (decZ (241 + (i.val : Int)) = [50, 53, 55] ↔ i.val = 16) := by decide +kernel
theorem dec_three {n : Int} (h1 : -16 ≤ n) (h2 : n ≤ 16) : (decZ (257 + n)).length = 3 ∧ (decZ (257 + n) = [50, 53, 55] ↔ n = 0) := by
  have h := dec_threes ⟨(n + 16).toNat, by omega⟩
  have e : (241 : Int) + ((n + 16).toNat : Int) = 257 + n := by omega
  dsimp only at h
  rw [e] at h
  refine ⟨h.1, h.2.trans ?_⟩
  omega
theorem code_text (n : Int) (c : Nat) : Str.ofString (toString (257 + n)) ++ Str.ofString " \"" ++ tx [c] = tx (decZ (257 + n) ++ [32, 34, c]) := by
  rw [tx_decZ, show Str.ofString " \"" = tx [32, 34] from rfl, tx_app, tx_app, List.append_assoc]; rfl
theorem code_first {l r : List Nat} (h : l.length = 3) (hne : l ≠ [50, 53, 55]) : (Txt.slice (tx (l ++ r)) none (some 3) != Str.ofString "257") = true := by
  show (Txt.slice (tx (l ++ r)) none (some ((3 : Nat) : Int)) != Str.ofString "257") = true
  rw [slice_to (j := 3) (by rw [tx_len, List.length_append, h]; omega), tx_cps, show Str.ofString "257" = tx [50, 53, 55] from by decide, tx_bne, List.take_append_of_le_length (by omega), List.take_of_length_le (by omega)]
  exact decide_eq_true hne
theorem front_text (c : Nat) : Str.ofString "257" ++ tx [c] ++ Str.ofString " \"\"\"\"" ++ tx [c] = tx [50, 53, 55, c, 32, 34, 34, 34, 34, c] := by
  rw [show Str.ofString "257" = tx [50, 53, 55] from rfl, show Str.ofString " \"\"\"\"" = tx [32, 34, 34, 34, 34] from rfl, tx_app, tx_app, tx_app]; rfl
theorem parse_front (w : World) (loose : List Str) (mean : ExcName → Option Value) (mg mb : Str → Option Value) (news : List (Addr × Obj)) (c : Nat) (t0 : Tok) (hc : c ≠ 32) :
    Con w loose mean mg mb 70 news [.str (tx [50, 53, 55, c, 32, 34, 34, 34, 34, c]) t0] 1 (fun v n' => n' = news ∧ ∃ tk, v = .str (Str.ofString "") tk) := by
  have h := parse_ok w loose mean mg mb news (tx [50, 53, 55, c, 32, 34, 34, 34, 34, c]) t0 (by rw [tx_len]; simp) (by rw [tx_len]; simp) (by rw [tx_cps]; rfl)
  have e : p257 [50, 53, 55, c, 32, 34, 34, 34, 34, c] = [] := by simp [p257, hc]
  rw [tx_cps, e] at h
  exact h
theorem odds4_len (m0 m1 m2 m3 : Nat) (a b c d : Int) : (odds4 m0 m1 m2 m3 a b c d).length ≤ 4 := by
  unfold odds4
  simp only [List.length_append]
  split <;> split <;> split <;> split <;> simp
def oddPre (ms ns : List Int) : Nat → List Int
  | 0 => []
  | i + 1 => oddPre ms ns i ++ (if (ms.getD i 0).fmod 2 = 1 then [ns.getD i 0] else [])
theorem odd_one (m : Nat) : ((m : Int).fmod 2 = 1) ↔ m % 2 = 1 := by
  rw [Int.fmod_eq_emod_of_nonneg _ (by decide)]; omega
theorem odd_pre4 (m0 m1 m2 m3 : Nat) (a b c d : Int) : oddPre [(m0 : Int), m1, m2, m3] [a, b, c, d] 4 = odds4 m0 m1 m2 m3 a b c d := by
  unfold odds4
  simp only [oddPre, List.getD_cons_zero, List.getD_cons_succ, odd_one, List.nil_append, List.append_assoc]
/-- the law from its levels on -/
theorem law_end (w : World) (loose : List Str) (mean : ExcName → Option Value) (mg mb : Str → Option Value) (a : Addr) (ccd : Value) (base h₀ : Heap) (L : Addr) (m : Str → Option Value) (s : Shared) (Z : Result → Shared → Prop)
    (cL : Nat) (tkl : Tok) (tl : List Nat) (tkt : Tok) (vA vT vC : Value) (D D2 lE lO lP : Addr) (ys ms evs9 ods9 pvs : List Value) (yn mn en on pn : Nat) (na nb nc nd : Int) (m0 m1 m2 m3 : Nat) (E O P : List Int) (oN oM oE oO : Obj) (R : List (Addr × Obj))
    (B : Below callerA base [] h₀) (F : Fr h₀ L s.heap (fun y => if y = Str.ofString "points" then some (.ref lP) else if y = Str.ofString "answers" then some vA else if y = Str.ofString "table" then some vT else if y = Str.ofString "choices" then some vC else if y = Str.ofString "tail" then some (.str (tx tl) tkt) else if y = Str.ofString "letter" then some (.str (tx [cL]) tkl) else m y))
    (X : (Mine.heapK w.params).In h₀) (XB : (Mine.heapK w.params).In base) (T : Top viewK loose mean mg mb h₀) (TB : Top viewK loose mean mg mb base) (N : News h₀ L s.heap R)
    (hE : (L + 1 + 1 + 1 + 1, oE) ∈ R) (dE : oE.data = .cell (some (.ref lE))) (hlE : (lE, listOf evs9.toArray en) ∈ R) (hiE : IntsAre evs9 E)
    (hO : (L + 1 + 1 + 1 + 1 + 1, oO) ∈ R) (dO : oO.data = .cell (some (.ref lO))) (hlO : (lO, listOf ods9.toArray on) ∈ R) (hiO : IntsAre ods9 O)
    (hN : (L + 1 + 1, oN) ∈ R) (dN : oN.data = .cell (some (.ref D))) (hD : (D, listOf ys.toArray yn) ∈ R) (hys : IntsAre ys [na, nb, nc, nd])
    (hM : (L + 1 + 1 + 1, oM) ∈ R) (dM : oM.data = .cell (some (.ref D2))) (hD2 : (D2, listOf ms.toArray mn) ∈ R) (hms : IntsAre ms [(m0 : Int), m1, m2, m3])
    (hlP : (lP, listOf pvs.toArray pn) ∈ R) (hiP : IntsAre pvs P) (RW : Rows (chs m0 m1 m2 m3 na nb nc nd) E O P)
    (hl97 : 97 ≤ cL ∧ cL ≤ 122) (htl : Tail tl) (htl10 : tl.length ≤ 10) (hna : -1000000 ≤ na ∧ na ≤ 1000000) (hnb : -1000000 ≤ nb ∧ nb ≤ 1000000) (hnc : -1000000 ≤ nc ∧ nc ≤ 1000000) (hnd : -1000000 ≤ nd ∧ nd ≤ 1000000) (hm0 : m0 < 5) (hm1 : m1 < 5) (hm2 : m2 < 5) (hm3 : m3 < 5)
    (hZ : ∀ h' tk' m', Fr h₀ L h' m' → Z (.ok (.ret (.bool true))) { s with heap := h', toks := tk' }) :
    wpAny (model PySem.Challenge.rw_ux0026_02.row.prog w) (callerA.deeper (envOfC (Str.ofString "law") f22s L a ccd)) (execs (f22b.drop 12) (envOfC (Str.ofString "law") f22s L a ccd)) (fun f s' => Z (.ok (.ret (match f with | .ret v => v | _ => .none))) s')
      (fun e s' => wpAny (model PySem.Challenge.rw_ux0026_02.row.prog w) (callerA.deeper (envOfC (Str.ofString "law") f22s L a ccd)) (leaving (envOfC (Str.ofString "law") f22s L a ccd) e) (fun _ s'' => Z (.error e) s'') (fun e' s'' => Z (.error e') s'') s') s := by
  have hcs := chs_ok hm0 hm1 hm2 hm3 hna hnb hnc hnd
  revert X
  k_fill
  intro X
  k_with_none
  delta f22b f22s
  simp only [List.drop]
  have hP16 : P.length = 16 := by rw [RW.len]; rfl
  have hE16 : E.length ≤ 1000 := by have := RW.lenE; rw [chs_len] at this; omega
  have hO16 : O.length ≤ 1000 := by have := RW.lenO; rw [chs_len] at this; omega
  have hlev := RW.level
  have hbnd := RW.bound
  have hpv : pvs.length = 16 := by rw [hiP.length, hP16]
  w_strict (repeat' ((fail_if_success (with_reducible show wpAny _ _ (exec (Stmt.Assign _ (Expr.ListComp _ _ _ _) _) _) _ _ _)); first | (k_unfold; (try dsimp only)) | (k_end; wrow_close) | walk1 | (dsimp only; walk1) | (leave1; walk_say "STEP leave1"; try dsimp only) | fail "no step"))
  refine PyProof.Rows.LCg.Assign_ListComp_U (F₀ := by k_asm) (by rfl) (by with_unfolding_all rfl) (by with_unfolding_all rfl) (by decide) (by rfl) (by decide) (by rfl) (by rfl) (by rfl) ?_
  w_strict (repeat' ((fail_if_success (with_reducible show PyProof.Rows.LCg.CompSrc _ _ _ _ _ _ _ _ _ _ _ _ _ _)); first | (k_unfold; (try dsimp only)) | (k_end; wrow_close) | walk1 | (dsimp only; walk1) | (leave1; walk_say "STEP leave1"; try dsimp only) | fail "no step"))
  refine PyProof.Rows.LCg.CompSrc.ledger (by rfl) (by k_asm) N hlP (by rw [List.size_toArray, sizeLine_eq, hpv]; omega) ?_
  intro g2
  refine compU_J (fun i ys n' => n' = R ∧ IntsAre ys ((P.take i).map (lev (chs m0 m1 m2 m3 na nb nc nd)))) ?turnA ?finA pvs.toArray.size 0 [] _ (Nat.zero_add _) ⟨rfl, .nil⟩
  case turnA =>
    rintro i zs n' hi ⟨hn', hys⟩ v I oI C oCc D3 m₂ h tk' E' hv hCc hx F' N' off ne
    replace hn' := hn'.symm
    subst hn'
    have hi16 : i < P.length := by rw [← hiP.length]; simpa using hi
    obtain ⟨tz, hz⟩ := hiP.get i (P[i]'hi16) (List.getElem?_eq_getElem hi16)
    have hv' : pvs[i]? = some v := by simpa using hv
    rw [hz] at hv'
    cases hv'
    k_unmd
    try k_fold
    try dsimp only
    w_strict (repeat' (first | (k_unfold; (try dsimp only)) | (k_end; wrow_close) | walk1 | (dsimp only; walk1) | (leave1; walk_say "STEP leave1"; try dsimp only) | fail "no step"))
    rw [hlev]
    refine compEnd_same (by assumption) (by assumption) off (.inr ⟨_, hlP, rfl, _, rfl⟩) ⟨rfl, ?_⟩
    rw [List.take_add_one, List.getElem?_eq_getElem hi16, List.map_append]
    exact hys.append (.cons _ _ .nil)
  case finA =>
    rintro lvs n' ⟨hn', hlv⟩
    replace hn' := hn'.symm
    subst hn'
    rw [show pvs.toArray.size = P.length from by rw [List.size_toArray, hiP.length], List.take_length] at hlv
    unfold PyProof.Rows.LCg.FinA
    intro lL h1 tk1 F1 N1 o1
    clear N F
    have N2 : News h₀ L h1 ((lL, listOf lvs.toArray lvs.length) :: R) := N1
    clear N1
    k_unmd
    try k_fold
    try dsimp only
    w_strict (repeat' ((fail_if_success (with_reducible show wpAny _ _ (pyIter _) _ _ _)); first | (k_unfold; (try dsimp only)) | (k_end; wrow_close) | walk1 | (dsimp only; walk1) | (leave1; walk_say "STEP leave1"; try dsimp only) | fail "no step"))
    rename Fr _ _ _ _ => lF
    rename News _ _ _ _ => lN
    with_unfolding_all refine' iter_keep (by rfl) lF lN (List.Mem.head _) ?turnR ?doneR
    case turnR =>
      intro v h tk own hv hoff F3 N3
      obtain ⟨n, tn, rfl, hn⟩ := ints_mem hlv hv
      obtain ⟨hn1, hn2⟩ : -16 ≤ n ∧ n ≤ 16 := by
        obtain ⟨p, _, rfl⟩ := List.mem_map.mp hn
        have := hbnd p
        rw [chs_len] at this
        omega
      have hd3 := dec_three hn1 hn2
      clear lF lN
      have hll : (tx [cL]).length = 1 := rfl
      have htl3 : (Str.ofString (toString (257 + n))).length ≤ 10 := by rw [tx_decZ, tx_len, hd3.1]; decide
      k_unmd
      try k_fold
      try dsimp only
      w_strict (repeat' ((fail_if_success (with_reducible show wpAny _ _ (call (Value.ref _) _) _ _ _)); first | (k_unfold; (try dsimp only)) | (k_end; wrow_close) | walk1 | (dsimp only; walk1) | (leave1; walk_say "STEP leave1"; try dsimp only) | fail "no step"))
      rw [code_text]
      by_cases hn0 : n = 0
      · k_dflt (refine' Con0X.use (allowed_ok _ _ _ _ _ _ _ _ (by rw [tx_len, List.length_append, hd3.1]; simp) (by rw [tx_len, List.length_append, hd3.1]; simp) (by rw [tx_cps, List.take_append_of_le_length (by rw [hd3.1]; decide), List.take_of_length_le (by rw [hd3.1]; decide)]; exact hd3.2.mpr hn0)) ?ya1 ?ya2 ?ya3 ?ya3b ?ya4 ?ya5 ?ya5b ?yaf ?yaK ?yad ?yau ?yar)
        case ya1 => k_asm
        case ya2 => k_asm
        case ya3 => assumption
        case ya3b => assumption
        case ya4 => k_asm
        case ya5 => assumption
        case ya5b => assumption
        case yaf => rfl
        case yaK => rfl
        case yad => first | ktr_room | decide
        case yau => first | ktr_units | decide
        intro vR nR hR tkR FR NR PR
        obtain ⟨eR, eR2⟩ := PR
        subst eR
        subst eR2
        clear F3 N3
        have hf9 : (false != (n != 0)) = false := by rw [hn0]; rfl
        k_unmd
        try k_fold
        try dsimp only
        w_strict (repeat' (first | (k_unfold; (try dsimp only)) | (k_end; wrow_close) | walk1 | (dsimp only; walk1) | (leave1; walk_say "STEP leave1"; try dsimp only) | fail "no step"))
        refine keep_end (by assumption) (by assumption) (List.Mem.head _) hoff ?kz1
        case kz1 => intro z hz; simp [hz]
      · k_dflt (refine' Con0X.use (refused_ok _ _ _ _ _ _ _ _ (by rw [tx_len, List.length_append, hd3.1]; simp) (code_first hd3.1 (fun e => hn0 (hd3.2.mp e)))) ?za1 ?za2 ?za3 ?za3b ?za4 ?za5 ?za5b ?zaf ?zaK ?zad ?zau ?zar)
        case za1 => k_asm
        case za2 => k_asm
        case za3 => assumption
        case za3b => assumption
        case za4 => k_asm
        case za5 => assumption
        case za5b => assumption
        case zaf => rfl
        case zaK => rfl
        case zad => first | ktr_room | decide
        case zau => first | ktr_units | decide
        intro vR nR hR tkR FR NR PR
        obtain ⟨eR, eR2⟩ := PR
        subst eR
        subst eR2
        clear F3 N3
        have hf9 : (true != (n != 0)) = false := by rw [bne_iff_ne.mpr hn0]; rfl
        k_unmd
        try k_fold
        try dsimp only
        w_strict (repeat' (first | (k_unfold; (try dsimp only)) | (k_end; wrow_close) | walk1 | (dsimp only; walk1) | (leave1; walk_say "STEP leave1"; try dsimp only) | fail "no step"))
        refine keep_end (by assumption) (by assumption) (List.Mem.head _) hoff ?kz2
        case kz2 => intro z hz; simp [hz]
    case doneR =>
      intro u2 h tk F3 N3
      clear lF lN
      k_unmd
      try k_fold
      try dsimp only
      have hll : (tx [cL]).length = 1 := rfl
      w_strict (repeat' ((fail_if_success (with_reducible show wpAny _ _ (call (Value.ref _) _) _ _ _)); first | (k_unfold; (try dsimp only)) | (k_end; wrow_close) | walk1 | (dsimp only; walk1) | (leave1; walk_say "STEP leave1"; try dsimp only) | fail "no step"))
      rw [front_text]
      k_dflt (refine' Con.use (parse_front _ _ _ _ _ _ cL _ (by omega)) ?pa1 ?pa2 ?pa3 ?pa4 ?pa5 ?paK ?pad ?pau ?par)
      case pa1 => k_asm
      case pa2 => k_asm
      case pa3 => k_asm
      case pa4 => k_asm
      case pa5 => k_asm
      case paK => rfl
      case pad => first | ktr_room | decide
      case pau => first | ktr_units | decide
      intro vP nP hP9 tkP FP NP PP
      obtain ⟨eP, tP, eP2⟩ := PP
      subst eP
      subst eP2
      clear F3 N3
      k_unmd
      try k_fold
      try dsimp only
      w_strict (repeat' ((fail_if_success (with_reducible show wpAny _ _ (exec (Stmt.Assign _ (Expr.ListComp _ _ _ _) _) _) _ _ _)); first | (k_unfold; (try dsimp only)) | (k_end; wrow_close) | walk1 | (dsimp only; walk1) | (leave1; walk_say "STEP leave1"; try dsimp only) | fail "no step"))
      refine PyProof.Rows.LCt.Assign_ListComp_T (F₀ := by k_asm) (by rfl) (by with_unfolding_all rfl) (by with_unfolding_all rfl) (by decide) (by rfl) (by decide) (by rfl) (by rfl) (by rfl) ?_
      w_strict (repeat' ((fail_if_success (with_reducible show PyProof.Rows.LCt.CompSrcT _ _ _ _ _ _ _ _ _ _ _ _ _ _ _)); first | (k_unfold; (try dsimp only)) | (k_end; wrow_close) | walk1 | (dsimp only; walk1) | (leave1; walk_say "STEP leave1"; try dsimp only) | fail "no step"))
      rename News _ _ _ _ => lN
      rename Fr _ _ _ _ => lF
      rename IsRange _ _ _ _ _ _ _ _ => rgX
      refine PyProof.Rows.LCt.CompSrcT.range (n := 4) (by rfl) lF lN rgX (by decide) (by rfl) (by rw [sizeLine_eq]; omega) ?_
      intro g3
      refine compT_J (fun i zs n' => n' = (lL, listOf lvs.toArray lvs.length) :: R ∧ IntsAre zs (oddPre [(m0 : Int), m1, m2, m3] [na, nb, nc, nd] i)) ?turnO ?finO 4 0 [] _ (Nat.zero_add _) ⟨rfl, .nil⟩
      case turnO =>
        rintro i zs n' hi ⟨hn', hzs⟩ v I oI C oCc D3 m₂ h6 tk' E' ⟨tv, rfl⟩ hCc hx F' N' off ne
        subst hn'
        clear lN lF
        have e0 : (0 + (i : Int)).toNat = i := by omega
        k_unmd
        try k_fold
        try dsimp only
        w_strict (repeat' (first | (k_unfold; (try dsimp only)) | (k_end; wrow_close) | walk1 | (dsimp only; walk1) | (leave1; walk_say "STEP leave1"; try dsimp only) | fail "no step"))
        · rename (_ : Int).fmod 2 = 1 => hq
          rw [e0] at hq
          refine compEnd_same (by assumption) (by assumption) off trivial ⟨rfl, ?_⟩
          rw [e0]
          show IntsAre _ (oddPre _ _ i ++ _)
          rw [if_pos hq]
          exact hzs.append (.cons _ _ .nil)
        · rename ¬ (_ : Int).fmod 2 = 1 => hq
          rw [e0] at hq
          refine compEnd_same (by assumption) (by assumption) off trivial ⟨rfl, ?_⟩
          show IntsAre _ (oddPre _ _ i ++ _)
          rw [if_neg hq, List.append_nil]
          exact hzs
      case finO =>
        rintro odv n' ⟨hn', hod⟩
        subst hn'
        rw [odd_pre4] at hod
        unfold PyProof.Rows.LCg.FinA
        intro lD h6 tk6 F6 N6 o6
        clear lN lF
        have N7 : News h₀ L h6 ((lD, listOf odv.toArray odv.length) :: (lL, listOf lvs.toArray lvs.length) :: R) := N6
        clear N6
        k_unmd
        try k_fold
        try dsimp only
        w_strict (repeat' ((fail_if_success (with_reducible show wpAny _ _ (execs (Stmt.Assign [Expr.Name (Str.ofString "due") _] _ _ :: _) _) _ _ _)); first | (k_unfold; (try dsimp only)) | (k_end; wrow_close) | walk1 | (dsimp only; walk1) | (leave1; walk_say "STEP leave1"; try dsimp only) | fail "no step"))
        rename Fr _ _ _ _ => lF
        rename News _ _ _ _ => lN
        have hT : ∀ p ∈ R, p ∈ (lD, listOf odv.toArray odv.length) :: (lL, listOf lvs.toArray lvs.length) :: R := fun p hp => List.Mem.tail _ (List.Mem.tail _ hp)
        exact law_fin w loose mean mg mb a ccd base h₀ L m _ _ Z cL _ tl _ vA vT vC lE lO lP lL lD evs9 ods9 pvs lvs odv en on pn _ _ E O P _ (lev (chs m0 m1 m2 m3 na nb nc nd)) oE oO _ B lF X T lN (hT _ hE) dE (hT _ hlE) hiE (hT _ hO) dO (hT _ hlO) hiO (hT _ hlP) hiP (List.Mem.tail _ (List.Mem.head _)) hlv (List.Mem.head _) hod hl97 htl htl10 hP16
          (fun x hx => by obtain ⟨e, he, hex⟩ := RW.mem.mp hx; rw [← hex]; exact (hcs e he).2) (fun x => by have := hbnd x; rw [chs_len] at this; exact this) (odds4_len ..) (fun x hx => by rcases odds4_mem hx with ⟨_, rfl⟩ | ⟨_, rfl⟩ | ⟨_, rfl⟩ | ⟨_, rfl⟩ <;> assumption)
          (fun p h1 h2 => moved_less RW h1 h2) (fun h => moved_due RW h) (fun h => last_zero RW h) (fun h => nil_pos RW h) (fun h => rows_same RW h) (fun h1 h2 => sides_even RW h1 h2) hZ
end
section
open PySem PySem.W PyProof.Rows


theorem HdAt.mono {C : Addr} {n n' : List (Addr × Obj)} {x dx : Addr} {hs : Int} {tk : Tok} {nd : Nat} {lp : Addr} {vs : List Value} {nn : Nat} {ps : List PT} (h : HdAt C n x dx hs tk nd lp vs nn ps) (s : ∀ p ∈ n, p ∈ n') : HdAt C n' x dx hs tk nd lp vs nn ps :=
  ⟨s _ h.inst, s _ h.dict, s _ h.list, h.pairs.mono s⟩
theorem names_kqd {l : Nat} {cs : List Ch} (hl : 97 ≤ l ∧ l ≤ 122) (hcs : ChsOk cs) (h16 : cs.length = 16 := by rfl) : kqdOk 9 (Dat.list ((tabPs l cs 16).map nameD)) = true := by
  have := strs_ok (xs := (tabPs l cs 16).map (·.1)) (by
    intro y hy
    obtain ⟨p, hp, rfl⟩ := List.mem_map.mp hy
    unfold tabPs at hp
    obtain ⟨j, hj, rfl⟩ := List.mem_map.mp hp
    exact (tabOne_ok hl (by have := List.mem_range.mp hj; omega) hcs).1)
  rw [List.map_map] at this
  exact this
theorem nones_all (n : List (Addr × Obj)) : ∀ k : Nat, DatAll n (List.replicate k Value.none) (List.replicate k Dat.none)
  | 0 => .nil
  | k + 1 => .cons .none (nones_all n k)
/-- the law from its table on -/
theorem law_mid (w : World) (loose : List Str) (mean : ExcName → Option Value) (mg mb : Str → Option Value) (a : Addr) (ccd : Value) (base h₀ : Heap) (L : Addr) (m : Str → Option Value) (s : Shared) (Z : Result → Shared → Prop)
    (cL : Nat) (tkl : Tok) (tl : List Nat) (tkt : Tok) (lr : Addr) (cvs : List Value) (cnn : Nat) (D D2 : Addr) (ys ms : List Value) (yn mn : Nat) (na nb nc nd : Int) (m0 m1 m2 m3 : Nat) (oN oM oE oO : Obj) (vE vO : Option Value) (rest : List (Addr × Obj))
    (B : Below callerA base [] h₀) (F : Fr h₀ L s.heap (fun y => if y = Str.ofString "choices" then some (.ref lr) else if y = Str.ofString "tail" then some (.str (tx tl) tkt) else if y = Str.ofString "letter" then some (.str (tx [cL]) tkl) else m y))
    (X : (Mine.heapK w.params).In h₀) (XB : (Mine.heapK w.params).In base) (T : Top viewK loose mean mg mb h₀) (TB : Top viewK loose mean mg mb base)
    (N : News h₀ L s.heap ((L + 1 + 1 + 1 + 1, oE) :: (L + 1 + 1 + 1 + 1 + 1, oO) :: rest)) (dE : oE.data = .cell vE) (dO : oO.data = .cell vO)
    (hN : (L + 1 + 1, oN) ∈ rest) (dN : oN.data = .cell (some (.ref D))) (hD : (D, listOf ys.toArray yn) ∈ rest) (hys : IntsAre ys [na, nb, nc, nd])
    (hM : (L + 1 + 1 + 1, oM) ∈ rest) (dM : oM.data = .cell (some (.ref D2))) (hD2 : (D2, listOf ms.toArray mn) ∈ rest) (hms : IntsAre ms [(m0 : Int), m1, m2, m3])
    (hc : (lr, listOf cvs.toArray cnn) ∈ rest) (hdC : DatAll rest cvs ((chs m0 m1 m2 m3 na nb nc nd).map chD)) (hrest : ∀ p ∈ rest, p.1 ≠ L + 1 + 1 + 1 + 1 ∧ p.1 ≠ L + 1 + 1 + 1 + 1 + 1)
    (hl97 : 97 ≤ cL ∧ cL ≤ 122) (htl : Tail tl) (htl10 : tl.length ≤ 10) (hna : -1000000 ≤ na ∧ na ≤ 1000000) (hnb : -1000000 ≤ nb ∧ nb ≤ 1000000) (hnc : -1000000 ≤ nc ∧ nc ≤ 1000000) (hnd : -1000000 ≤ nd ∧ nd ≤ 1000000) (hm0 : m0 < 5) (hm1 : m1 < 5) (hm2 : m2 < 5) (hm3 : m3 < 5)
    (hZ : ∀ h' tk' m', Fr h₀ L h' m' → Z (.ok (.ret (.bool true))) { s with heap := h', toks := tk' }) :
    wpAny (model PySem.Challenge.rw_ux0026_02.row.prog w) (callerA.deeper (envOfC (Str.ofString "law") f22s L a ccd)) (execs (f22b.drop 6) (envOfC (Str.ofString "law") f22s L a ccd)) (fun f s' => Z (.ok (.ret (match f with | .ret v => v | _ => .none))) s')
      (fun e s' => wpAny (model PySem.Challenge.rw_ux0026_02.row.prog w) (callerA.deeper (envOfC (Str.ofString "law") f22s L a ccd)) (leaving (envOfC (Str.ofString "law") f22s L a ccd) e) (fun _ s'' => Z (.error e) s'') (fun e' s'' => Z (.error e') s'') s') s := by
  have hcs := chs_ok hm0 hm1 hm2 hm3 hna hnb hnc hnd
  revert X
  k_fill
  intro X
  k_with_none
  delta f22b f22s
  simp only [List.drop]
  w_strict (repeat' ((fail_if_success (with_reducible show wpAny _ _ (call (Value.ref _) _) _ _ _)); first | (k_unfold; (try dsimp only)) | (k_end; wrow_close) | walk1 | (dsimp only; walk1) | (leave1; walk_say "STEP leave1"; try dsimp only) | fail "no step"))
  k_dflt (refine' Con.use (table_ok _ _ _ _ _ _ lr cvs cnn (chs m0 m1 m2 m3 na nb nc nd) cL _ tl _ ?tm ?td rfl hcs hl97 htl htl10) ?tk1 ?tk2 ?tk3 ?tk4 ?tk5 ?tkK ?tkd ?tku ?tkr)
  case tk1 => k_asm
  case tk2 => k_asm
  case tk3 => k_asm
  case tk4 => exact N
  case tk5 => k_asm
  case tm => exact List.Mem.tail _ (List.Mem.tail _ hc)
  case td => exact hdC.mono fun p hp => List.Mem.tail _ (List.Mem.tail _ hp)
  case tkK => rfl
  case tkd => first | ktr_room | decide
  case tku => first | ktr_units | decide
  intro vT nT' hT' tkT FT NT PT
  obtain ⟨add, T9, x, dx, lp, la, hs, tkH, nd9, tvs, tnn, an, nT, eT, eT2, hfr, hmT, hH, hmA⟩ := PT
  subst eT
  subst eT2
  clear F N
  have hcellE : ∀ (p : Addr × Obj), (∀ v, p.2.data ≠ .cell v) → p ≠ (L + 1 + 1 + 1 + 1, oE) := fun p hp e => hp vE (by rw [e]; exact dE)
  have hcellO : ∀ (p : Addr × Obj), (∀ v, p.2.data ≠ .cell v) → p ≠ (L + 1 + 1 + 1 + 1 + 1, oO) := fun p hp e => hp vO (by rw [e]; exact dO)
  have keepR : ∀ p ∈ add ++ (L + 1 + 1 + 1 + 1, oE) :: (L + 1 + 1 + 1 + 1 + 1, oO) :: rest, (∀ v, p.2.data ≠ .cell v) → p ∈ add ++ rest := by
    intro p hp hd
    rcases List.mem_append.mp hp with hp | hp
    · exact List.mem_append.mpr (.inl hp)
    rcases List.mem_cons.mp hp with hp | hp
    · exact absurd hp (hcellE p hd)
    rcases List.mem_cons.mp hp with hp | hp
    · exact absurd hp (hcellO p hd)
    · exact List.mem_append.mpr (.inr hp)
  have hmT' := keepR _ hmT (by intro v; nofun)
  have hmA' := keepR _ hmA (by intro v; nofun)
  have hH' : HdAt 232 (add ++ rest) x dx hs tkH nd9 lp tvs tnn (tabPs cL (chs m0 m1 m2 m3 na nb nc nd) 16) := ⟨keepR _ hH.inst (by intro v; nofun), keepR _ hH.dict (by intro v; nofun), keepR _ hH.list (by intro v; nofun), datAll_seq (fun p hp hq => keepR p hp (by obtain ⟨a9, n9, e9⟩ := hq; intro v; rw [e9]; nofun)) hH.pairs⟩
  have hrest2 : ∀ p ∈ add ++ rest, p.1 ≠ L + 1 + 1 + 1 + 1 ∧ p.1 ≠ L + 1 + 1 + 1 + 1 + 1 := fun p hp => (List.mem_append.mp hp).elim (fun h9 => ⟨hfr p h9 _ (List.Mem.head _), hfr p h9 _ (List.Mem.tail _ (List.Mem.head _))⟩) (hrest p)
  have N2 := cb_drop (news := (L + 1 + 1 + 1 + 1, oE) :: (L + 1 + 1 + 1 + 1 + 1, oO) :: (add ++ rest)) NT (by
    intro p hp
    rcases List.mem_cons.mp hp with rfl | hp
    · exact List.mem_append.mpr (.inr (List.Mem.head _))
    rcases List.mem_cons.mp hp with rfl | hp
    · exact List.mem_append.mpr (.inr (List.Mem.tail _ (List.Mem.head _)))
    rcases List.mem_append.mp hp with hp | hp
    · exact List.mem_append.mpr (.inl hp)
    · exact List.mem_append.mpr (.inr (List.Mem.tail _ (List.Mem.tail _ hp))))
  have hsubR : ∀ p ∈ rest, p ∈ add ++ rest := fun p hp => List.mem_append.mpr (.inr hp)
  replace hN := hsubR _ hN
  replace hD := hsubR _ hD
  replace hM := hsubR _ hM
  replace hD2 := hsubR _ hD2
  replace hc := hsubR _ hc
  replace hdC := hdC.mono hsubR
  clear NT hmT hH hmA keepR hfr hrest
  generalize add ++ rest = R at N2 hmT' hmA' hH' hrest2 hN hD hM hD2 hc hdC
  clear hsubR
  have hTup := News.isTup N2 (List.Mem.tail _ (List.Mem.tail _ hmT'))
  k_unmd
  try k_fold
  try dsimp only
  w_strict (repeat' ((fail_if_success (with_reducible show wpAny _ _ (compareOp _ (Value.ref _) (Value.ref _)) _ _ _)); first | (k_unfold; (try dsimp only)) | (k_end; wrow_close) | walk1 | (dsimp only; walk1) | (leave1; walk_say "STEP leave1"; try dsimp only) | fail "no step"))
  rename Fr _ _ _ _ => lF
  rename News _ _ _ _ => lN
  rename _ ∧ _ ∧ AllLt _ _ => l1
  refine KMa.mul (vs := [Value.none]) (ws := List.replicate 16 Value.none) lF lN ⟨_, (lN _ (List.Mem.head _)).1, rfl, _, rfl⟩ (by decide) (by decide) (by decide) (by rfl) ?_
  intro DN h5 F5 N5 l5
  clear lN lF
  k_unmd
  try k_unfold
  try dsimp only
  w_strict (repeat' ((fail_if_success (with_reducible show wpAny _ _ (compareOp _ (Value.ref _) (Value.ref _)) _ _ _)); first | (k_unfold; (try dsimp only)) | (k_end; wrow_close) | walk1 | (dsimp only; walk1) | (leave1; walk_say "STEP leave1"; try dsimp only) | fail "no step"))
  rename News _ _ _ _ => lN
  refine dat_ne_same lN (n1 := R) (d := Dat.list (List.replicate 16 Dat.none)) (.list hmA' (nones_all _ 16)) (fun p hp => List.Mem.tail _ (List.Mem.tail _ (List.Mem.tail _ (List.Mem.tail _ hp)))) (n2 := _) (.list (n := 0) (List.Mem.head _) (nones_all _ 16)) (fun p hp => hp) (by decide) (by ktr_units) ?_
  have N6 := cb_drop (news := (L + 1 + 1 + 1 + 1, oE) :: (L + 1 + 1 + 1 + 1 + 1, oO) :: R) lN (fun p hp => List.Mem.tail _ (List.Mem.tail _ hp))
  clear lN l5 l1
  have hHi := hH'.inst
  have hHd := hH'.dict
  w_strict (repeat' ((fail_if_success (with_reducible show wpAny _ _ (call (Value.ref _) _) _ _ _)); first | (k_unfold; (try dsimp only)) | (k_end; wrow_close) | walk1 | (dsimp only; walk1) | (leave1; walk_say "STEP leave1"; try dsimp only) | fail "no step"))
  k_dflt (refine' Con.use (keys_ok _ _ _ _ _ _ x dx hs tkH nd9 lp tvs tnn _ (hH'.mono ?kaH) (by rw [tabPs_len]; omega)) ?ka1 ?ka2 ?ka3 ?ka4 ?ka5 ?kaK ?kad ?kau ?kar)
  case ka1 => k_asm
  case ka2 => k_asm
  case ka3 => k_asm
  case ka4 => k_asm
  case ka5 => k_asm
  case kaH => exact fun p hp => List.Mem.tail _ (List.Mem.tail _ hp)
  case kaK => rfl
  case kad => first | ktr_room | decide
  case kau => first | ktr_units | decide
  intro vK nK hK tkK FK NK PK
  obtain ⟨lk, kvs, eK, eK2, hofK, hdK⟩ := PK
  subst eK
  subst eK2
  clear F5 N6
  k_unmd
  try k_fold
  try dsimp only
  w_strict (repeat' ((fail_if_success (with_reducible show wpAny _ _ (call (Value.ref _) _) _ _ _)); first | (k_unfold; (try dsimp only)) | (k_end; wrow_close) | walk1 | (dsimp only; walk1) | (leave1; walk_say "STEP leave1"; try dsimp only) | fail "no step"))
  k_dflt (refine' Con.use (names_ok _ _ _ _ _ _ lr cvs cnn (chs m0 m1 m2 m3 na nb nc nd) cL _ R ?nam hdC ?nab rfl hcs hl97) ?na1 ?na2 ?na3 ?na4 ?na5 ?naK ?nad ?nau ?nar)
  case na1 => k_asm
  case na2 => k_asm
  case na3 => k_asm
  case na4 => k_asm
  case na5 => k_asm
  case nam => exact List.Mem.tail _ (List.Mem.tail _ (List.Mem.tail _ hc))
  case nab => exact fun p hp => List.Mem.tail _ (List.Mem.tail _ (List.Mem.tail _ hp))
  case naK => rfl
  case nad => first | ktr_room | decide
  case nau => first | ktr_units | decide
  intro vM nM hM9 tkM FM NM PM
  obtain ⟨ln, nvs, nnn, eM, eM2, hofM, hdM⟩ := PM
  subst eM
  subst eM2
  clear FK NK
  k_unmd
  try k_fold
  try dsimp only
  w_strict (repeat' ((fail_if_success (with_reducible show wpAny _ _ (compareOp _ (Value.ref _) (Value.ref _)) _ _ _)); first | (k_unfold; (try dsimp only)) | (k_end; wrow_close) | walk1 | (dsimp only; walk1) | (leave1; walk_say "STEP leave1"; try dsimp only) | fail "no step"))
  rename News _ _ _ _ => lN
  refine dat_ne_same lN (d := Dat.list ((tabPs cL (chs m0 m1 m2 m3 na nb nc nd) 16).map nameD)) (.list (n := kvs.length) (List.Mem.tail _ (List.Mem.head _)) (hdK.mono fun p hp => List.Mem.tail _ (List.Mem.tail _ hp))) (fun p hp => hp) (.list (n := nnn) (List.Mem.head _) (hdM.mono fun p hp => List.Mem.tail _ hp)) (fun p hp => hp) (names_kqd hl97 hcs) (by ktr_units) ?_
  have N6 := cb_drop (news := (L + 1 + 1 + 1 + 1, oE) :: (L + 1 + 1 + 1 + 1 + 1, oO) :: R) lN (fun p hp => List.Mem.tail _ (List.Mem.tail _ hp))
  clear lN hdK hdM hofK hofM
  w_strict (repeat' ((fail_if_success (with_reducible show wpAny _ _ (call (Value.ref _) _) _ _ _)); first | (k_unfold; (try dsimp only)) | (k_end; wrow_close) | walk1 | (dsimp only; walk1) | (leave1; walk_say "STEP leave1"; try dsimp only) | fail "no step"))
  k_dflt (refine' Con.use (hdr0_ok _ _ _ _ _ _) ?ha1 ?ha2 ?ha3 ?ha4 ?ha5 ?haK ?had ?hau ?har)
  case ha1 => k_asm
  case ha2 => k_asm
  case ha3 => k_asm
  case ha4 => k_asm
  case ha5 => k_asm
  case haK => rfl
  case had => first | ktr_room | decide
  case hau => first | ktr_units | decide
  intro vH nH hH9 tkH9 FH NH PH
  obtain ⟨x2, dx2, lp2, hs2, tk2, nd2, eH, eH2, oH1, oH2, oH3, oH4⟩ := PH
  subst eH
  subst eH2
  clear FM N6
  k_unmd
  try k_fold
  try dsimp only
  w_strict (repeat' ((fail_if_success (with_reducible show wpAny _ _ (call (Value.ref _) _) _ _ _)); first | (k_unfold; (try dsimp only)) | (k_end; wrow_close) | walk1 | (dsimp only; walk1) | (leave1; walk_say "STEP leave1"; try dsimp only) | fail "no step"))
  k_dflt (refine' Con.use (keys_ok _ _ _ _ _ _ x2 dx2 hs2 tk2 nd2 lp2 [] 0 [] ⟨?kbA, ?kbB, ?kbC, .nil⟩ (by decide)) ?kb1 ?kb2 ?kb3 ?kb4 ?kb5 ?kbK ?kbd ?kbu ?kbr)
  case kb1 => k_asm
  case kb2 => k_asm
  case kb3 => k_asm
  case kb4 => k_asm
  case kb5 => k_asm
  case kbA => exact List.Mem.head _
  case kbB => exact List.Mem.tail _ (List.Mem.head _)
  case kbC => exact List.Mem.tail _ (List.Mem.tail _ (List.Mem.head _))
  case kbK => rfl
  case kbd => first | ktr_room | decide
  case kbu => first | ktr_units | decide
  intro vK2 nK2 hK2 tkK2 FK2 NK2 PK2
  obtain ⟨lk2, kvs2, eK, eK2, hofK2, hdK2⟩ := PK2
  subst eK
  subst eK2
  clear FH NH
  have hkv : kvs2 = [] := List.eq_nil_of_length_eq_zero (by rw [hdK2.length]; rfl)
  subst hkv
  k_unmd
  try k_fold
  try dsimp only
  w_strict (repeat' ((fail_if_success (with_reducible show wpAny _ _ (compareOp _ (Value.ref _) (Value.ref _)) _ _ _)); first | (k_unfold; (try dsimp only)) | (k_end; wrow_close) | walk1 | (dsimp only; walk1) | (leave1; walk_say "STEP leave1"; try dsimp only) | fail "no step"))
  rename News _ _ _ _ => lN
  k_unmd
  try k_unfold
  try dsimp only
  refine dat_ne_same lN (d := Dat.list []) (.list (vs := []) (n := 0) (List.Mem.tail _ (List.Mem.head _)) .nil) (fun p hp => hp) (.list (vs := []) (n := 0) (List.Mem.head _) .nil) (fun p hp => hp) (by decide) (by ktr_units) ?_
  have N6 := cb_drop (news := (L + 1 + 1 + 1 + 1, oE) :: (L + 1 + 1 + 1 + 1 + 1, oO) :: R) lN (fun p hp => List.Mem.tail _ (List.Mem.tail _ (List.Mem.tail _ (List.Mem.tail _ (List.Mem.tail _ hp)))))
  clear lN hdK2 hofK2 oH1 oH2 oH3 oH4
  have hul := up_letter hl97
  have hul1 : (Txt.upper (tx [cL])).length = 1 := by rw [hul]; rfl
  have hll : (tx [cL]).length = 1 := rfl
  have hq1 : (Str.ofString "\"").length = 1 := by decide
  w_strict (repeat' ((fail_if_success (with_reducible show wpAny _ _ (call (Value.ref _) _) _ _ _)); first | (k_unfold; (try dsimp only)) | (k_end; wrow_close) | walk1 | (dsimp only; walk1) | (leave1; walk_say "STEP leave1"; try dsimp only) | fail "no step"))
  have hKE : Txt.upper (tx [cL]) ++ Str.ofString "\"" ++ Txt.upper (tx [cL]) = tx (endT cL 0) := by
    rw [hul, show Str.ofString "\"" = tx [34] from rfl, tx_app, tx_app]; rfl

  k_dflt (refine' Con.use (row_ok _ _ _ _ _ _ x dx hs tkH nd9 lp tvs tnn lr cvs cnn (chs m0 m1 m2 m3 na nb nc nd) cL 0 _ _ _ hKE R hH' hc hdC ?rab rfl hcs hl97 (by decide)) ?ra1 ?ra2 ?ra3 ?ra4 ?ra5 ?raK ?rad ?rau ?rar)
  case ra1 => k_asm
  case ra2 => k_asm
  case ra3 => k_asm
  case ra4 => k_asm
  case ra5 => k_asm
  case rab => exact fun p hp => List.Mem.tail _ (List.Mem.tail _ hp)
  case raK => rfl
  case rad => first | ktr_room | decide
  case rau => first | ktr_units | decide
  intro vR nR hR tkR FR NR PR
  obtain ⟨lE, evs9, en, M, eR, eR2, hofE, hiE, hallE, hM9⟩ := PR
  subst eR
  subst eR2
  clear N6
  have hEc : ∀ p ∈ (lE, listOf evs9.toArray en) :: (L + 1 + 1 + 1 + 1 + 1, oO) :: R, p.1 ≠ L + 1 + 1 + 1 + 1 := by
    intro p hp
    rcases List.mem_cons.mp hp with rfl | hp
    · exact Ne.symm (hofE _ (List.Mem.head _))
    rcases List.mem_cons.mp hp with rfl | hp
    · intro e; have e2 : @Eq Nat (L + 1 + 1 + 1 + 1 + 1) (L + 1 + 1 + 1 + 1) := e; (first | exact absurd e2 (by assumption) | exact absurd e2.symm (by assumption) | (simp at e2; done) | omega)
    · exact (hrest2 p hp).1
  k_unmd
  try k_fold
  try dsimp only
  refine storeX_C (by k_asm) (cb_drop (news := (L + 1 + 1 + 1 + 1, oE) :: (lE, listOf evs9.toArray en) :: (L + 1 + 1 + 1 + 1 + 1, oO) :: R) NR ?subE) (by rfl) (UpdF.head hEc) dE ?_
  case subE =>
    intro p hp
    simp only [List.mem_cons] at hp ⊢
    rcases hp with hp | hp | hp | hp <;> simp only [hp, true_or, or_true]
  intro h7 oE' F7 N7 dE'
  clear NR FR
  k_unmd
  try k_fold
  try dsimp only
  w_strict (repeat' ((fail_if_success (with_reducible show wpAny _ _ (call (Value.ref _) _) _ _ _)); first | (k_unfold; (try dsimp only)) | (k_end; wrow_close) | walk1 | (dsimp only; walk1) | (leave1; walk_say "STEP leave1"; try dsimp only) | fail "no step"))
  k_dflt (refine' Con.use (row_ok _ _ _ _ _ _ x dx hs tkH nd9 lp tvs tnn lr cvs cnn (chs m0 m1 m2 m3 na nb nc nd) cL 1 _ _ _ ?rbZ R hH' hc hdC ?rbb rfl hcs hl97 (by decide)) ?rb1 ?rb2 ?rb3 ?rb4 ?rb5 ?rbK ?rbd ?rbu ?rbr)
  case rb1 => k_asm
  case rb2 => k_asm
  case rb3 => k_asm
  case rb4 => k_asm
  case rb5 => k_asm
  case rbZ => rfl
  case rbb => exact fun p hp => List.Mem.tail _ (List.Mem.tail _ (List.Mem.tail _ hp))
  case rbK => rfl
  case rbd => first | ktr_room | decide
  case rbu => first | ktr_units | decide
  intro vR2 nR2 hR2 tkR2 FR NR PR
  obtain ⟨lO, ods9, on, M2, eR, eR2, hofO, hiO, hallO, hM92⟩ := PR
  subst eR
  subst eR2
  clear N7
  have hOc : ∀ p ∈ (lO, listOf ods9.toArray on) :: (L + 1 + 1 + 1 + 1, oE') :: (lE, listOf evs9.toArray en) :: R, p.1 ≠ L + 1 + 1 + 1 + 1 + 1 := by
    intro p hp
    rcases List.mem_cons.mp hp with rfl | hp
    · exact Ne.symm (hofO _ (List.Mem.tail _ (List.Mem.tail _ (List.Mem.head _))))
    rcases List.mem_cons.mp hp with rfl | hp
    · intro e; have e2 : @Eq Nat (L + 1 + 1 + 1 + 1) (L + 1 + 1 + 1 + 1 + 1) := e; (first | exact absurd e2 (by assumption) | exact absurd e2.symm (by assumption) | (simp at e2; done) | omega)
    rcases List.mem_cons.mp hp with rfl | hp
    · exact Ne.symm (hofE _ (List.Mem.tail _ (List.Mem.head _)))
    · exact (hrest2 p hp).2
  k_unmd
  try k_fold
  try dsimp only
  refine storeX_C (by k_asm) (cb_drop (news := (L + 1 + 1 + 1 + 1 + 1, oO) :: (lO, listOf ods9.toArray on) :: (L + 1 + 1 + 1 + 1, oE') :: (lE, listOf evs9.toArray en) :: R) NR ?subO) (by rfl) (UpdF.head hOc) dO ?_
  case subO =>
    intro p hp
    simp only [List.mem_cons] at hp ⊢
    rcases hp with hp | hp | hp | hp | hp <;> simp only [hp, true_or, or_true]
  intro h8 oO' F8 N8 dO'
  clear NR FR
  k_unmd
  try k_fold
  try dsimp only
  w_strict (repeat' ((fail_if_success (with_reducible show wpAny _ _ (binaryOp Operator.Add (Value.ref _) (Value.ref _)) _ _ _)); first | (k_unfold; (try dsimp only)) | (k_end; wrow_close) | walk1 | (dsimp only; walk1) | (leave1; walk_say "STEP leave1"; try dsimp only) | fail "no step"))
  have hEl := row_len (rest := 0) (cs := chs m0 m1 m2 m3 na nb nc nd) (by decide) hallE
  have hOl := row_len (rest := 1) (cs := chs m0 m1 m2 m3 na nb nc nd) (by decide) hallO
  rw [chs_len] at hEl hOl
  have hEl2 := hiE.length
  have hOl2 := hiO.length
  refine kmk_add_lit (its := evs9.toArray) (its2 := ods9.toArray) (zs := evs9 ++ ods9) F8 N8 ⟨_, (N8 _ (List.Mem.tail _ (List.Mem.tail _ (List.Mem.tail _ (List.Mem.head _))))).1, rfl, _, rfl⟩ ⟨_, (N8 _ (List.Mem.tail _ (List.Mem.head _))).1, rfl, _, rfl⟩ (by simp) ?_ (by rw [sizeLine_eq]; simp; omega)
  intro lz h9 F9 N9 l9
  clear F8 N8
  k_unmd
  try k_fold
  try dsimp only
  w_strict (repeat' ((fail_if_success (with_reducible show wpAny _ _ (call (Value.builtin _) _) _ _ _)); first | (k_unfold; (try dsimp only)) | (k_end; wrow_close) | walk1 | (dsimp only; walk1) | (leave1; walk_say "STEP leave1"; try dsimp only) | fail "no step"))
  k_unmd
  try k_unfold
  try dsimp only
  w_strict (repeat' ((fail_if_success (with_reducible show wpAny _ _ (call (Value.builtin _) _) _ _ _)); first | (k_unfold; (try dsimp only)) | (k_end; wrow_close) | walk1 | (dsimp only; walk1) | (leave1; walk_say "STEP leave1"; try dsimp only) | fail "no step"))
  refine kso_sorted (vs := evs9 ++ ods9) F9 N9 ⟨_, (N9 _ (List.Mem.head _)).1, rfl, _, rfl⟩ (hiE.append hiO) (by rw [List.length_append]; omega) ?_
  intro lP pvs P pn h10 F10 N10 lq hiP hPl hPp hPs _
  have RW := rows_of hallE hallO hPp hPs
  clear F9 N9
  k_unmd
  try k_fold
  try dsimp only
  w_strict (repeat' ((fail_if_success (with_reducible show wpAny _ _ (execs (Stmt.Assign [Expr.Name (Str.ofString "levels") _] _ _ :: _) _) _ _ _)); first | (k_unfold; (try dsimp only)) | (k_end; wrow_close) | walk1 | (dsimp only; walk1) | (leave1; walk_say "STEP leave1"; try dsimp only) | fail "no step"))
  rename Fr _ _ _ _ => lF
  rename News _ _ _ _ => lN
  exact law_end w loose mean mg mb a ccd base h₀ L m _ Z cL _ tl _ _ _ _ D D2 lE lO lP ys ms evs9 ods9 pvs _ _ _ _ _ na nb nc nd m0 m1 m2 m3 _ _ P oN oM oE' oO' _ B lF X XB T TB lN
    (List.Mem.tail _ (List.Mem.tail _ (List.Mem.tail _ (List.Mem.tail _ (List.Mem.head _))))) dE' (List.Mem.tail _ (List.Mem.tail _ (List.Mem.tail _ (List.Mem.tail _ (List.Mem.tail _ (List.Mem.head _)))))) hiE
    (List.Mem.tail _ (List.Mem.tail _ (List.Mem.head _))) dO' (List.Mem.tail _ (List.Mem.tail _ (List.Mem.tail _ (List.Mem.head _)))) hiO
    (List.Mem.tail _ (List.Mem.tail _ (List.Mem.tail _ (List.Mem.tail _ (List.Mem.tail _ (List.Mem.tail _ hN)))))) dN (List.Mem.tail _ (List.Mem.tail _ (List.Mem.tail _ (List.Mem.tail _ (List.Mem.tail _ (List.Mem.tail _ hD)))))) hys
    (List.Mem.tail _ (List.Mem.tail _ (List.Mem.tail _ (List.Mem.tail _ (List.Mem.tail _ (List.Mem.tail _ hM)))))) dM (List.Mem.tail _ (List.Mem.tail _ (List.Mem.tail _ (List.Mem.tail _ (List.Mem.tail _ (List.Mem.tail _ hD2)))))) hms
    (List.Mem.head _) hiP RW hl97 htl htl10 hna hnb hnc hnd hm0 hm1 hm2 hm3 hZ
end
section
open PySem PySem.W PyProof.Rows


local macro_rules | `(tactic| walk_at "mine tails") => `(tactic| (k_here; (with_reducible show wpAny _ _ (subscriptTail _ _ (Value.ref _) (Value.int _ _)) _ _ _); k_dflt ((with_unfolding_all refine' item_tails ?N ?m ?h0 ?h3 ?_); (case N => k_asm); (case m => k_mem)); (case h0 => assumption); (case h3 => assumption); intro x9 t9 hx9; (try dsimp only); (try k_fold)))
local macro_rules | `(tactic| walk_at "subscriptTail") => `(tactic| walk_at "mine tails")
theorem law_rest (w : World) (loose : List Str) (mean : ExcName → Option Value) (mg mb : Str → Option Value) (a : Addr) (ccd : Value) (base h₀ : Heap) (L : Addr) (m : Str → Option Value) (s : Shared) (Z : Result → Shared → Prop) (lc : Addr) (vs' : List Value) (ns' : List Int) (oC oN oM oE oO : Obj)
    (B : Below callerA base [] h₀) (F : Fr h₀ L s.heap m) (X : (Mine.heapK w.params).In h₀) (XB : (Mine.heapK w.params).In base) (T : Top viewK loose mean mg mb h₀) (TB : Top viewK loose mean mg mb base)
    (N : News h₀ L s.heap [(lc, listOf vs'.toArray 0), (L + 1 + 1 + 1 + 1 + 1, oO), (L + 1 + 1 + 1 + 1, oE), (L + 1 + 1 + 1, oM), (L + 1 + 1, oN), (L + 1, oC)])
    (hi' : IntsAre vs' ns') (hl6 : ns'.length = 6) (dC : oC.data = .cell (some (.ref lc))) (dN : oN.data = .cell none) (dM : oM.data = .cell none) (dE : oE.data = .cell none) (dO : oO.data = .cell none)
    (l1 : @LT.lt Nat _ (L + 1 + 1 + 1 + 1 + 1) lc) (hZ : ∀ h' tk' m', Fr h₀ L h' m' → Z (.ok (.ret (.bool true))) { s with heap := h', toks := tk' }) :
    wpAny (model PySem.Challenge.rw_ux0026_02.row.prog w) (callerA.deeper (envOfC (Str.ofString "law") f22s L a ccd)) (execs (f22b.drop 1) (envOfC (Str.ofString "law") f22s L a ccd)) (fun f s' => Z (.ok (.ret (match f with | .ret v => v | _ => .none))) s')
      (fun e s' => wpAny (model PySem.Challenge.rw_ux0026_02.row.prog w) (callerA.deeper (envOfC (Str.ofString "law") f22s L a ccd)) (leaving (envOfC (Str.ofString "law") f22s L a ccd) e) (fun _ s'' => Z (.error e) s'') (fun e' s'' => Z (.error e') s'') s') s := by
  have hl1000 : ns'.length ≤ 1000 := by omega
  revert X
  k_fill
  intro X
  k_with_none
  delta f22b f22s
  simp only [List.drop]
  w_strict (repeat' ((fail_if_success (with_reducible show wpAny _ _ (eval (Expr.ListComp _ _ _ _) _) _ _ _)); first | (k_unfold; (try dsimp only)) | (k_end; wrow_close) | walk1 | (dsimp only; walk1) | (leave1; walk_say "STEP leave1"; try dsimp only) | fail "no step"))
  refine PyProof.Rows.LCg.ListComp_U (F₀ := by k_asm) (by with_unfolding_all rfl) (by decide) (by rfl) (by decide) (by rfl) ?_
  w_strict (repeat' ((fail_if_success (with_reducible show PyProof.Rows.LCg.CompSrc _ _ _ _ _ _ _ _ _ _ _ _ _ _)); first | (k_unfold; (try dsimp only)) | (k_end; wrow_close) | walk1 | (dsimp only; walk1) | (leave1; walk_say "STEP leave1"; try dsimp only) | fail "no step"))
  rename IntsAre _ (List.take 4 ns') => hI4
  rename Fr _ _ _ _ => lF
  rename News _ _ _ _ => lN
  rename lc < _ ∧ _ => l4
  rename_i D1 ws1 _ _ _
  have hn4 : (ns'.take 4).length = 4 := by rw [List.length_take]; omega
  generalize hN4 : ns'.take 4 = n4 at hI4 hn4
  have hw1 : ws1.length = 4 := by rw [hI4.length, hn4]
  refine PyProof.Rows.LCg.CompSrc.ledger (by rfl) lF lN (List.Mem.head _) (by rw [List.size_toArray, sizeLine_eq, hw1]; omega) ?_
  intro g2
  refine compU_J (fun i ys n' => n' = _ ∧ IntsAre ys ((n4.take i).map fun z => (z + 1000000).fmod 2000001 - 1000000)) ?turnA ?finA ws1.toArray.size 0 [] _ (Nat.zero_add _) ⟨rfl, .nil⟩
  case turnA =>
    rintro i ys n' hi ⟨rfl, hys⟩ v I oI C oCc D m₂ h tk' E' hv hCc hx F' N' off ne
    have hi4 : i < n4.length := by rw [← hI4.length]; simpa using hi
    obtain ⟨tz, hz⟩ := hI4.get i (n4[i]'hi4) (List.getElem?_eq_getElem hi4)
    have hv' : ws1[i]? = some v := by simpa using hv
    rw [hz] at hv'
    cases hv'
    clear lN lF
    k_unmd
    try k_fold
    try dsimp only
    w_strict (repeat' (first | (k_unfold; (try dsimp only)) | (k_end; wrow_close) | walk1 | (dsimp only; walk1) | (leave1; walk_say "STEP leave1"; try dsimp only) | fail "no step"))
    refine compEnd_same (by assumption) (by assumption) off (.inr ⟨_, List.Mem.head _, rfl, _, rfl⟩) ⟨rfl, ?_⟩
    rw [List.take_add_one, List.getElem?_eq_getElem hi4, List.map_append]
    exact hys.append (.cons _ _ .nil)
  case finA =>
    rintro ys n' ⟨rfl, hys⟩
    rw [show ws1.toArray.size = n4.length from by rw [List.size_toArray, hI4.length], List.take_length] at hys
    unfold PyProof.Rows.LCg.FinE
    intro D h' tk' F' N' o1
    clear lN lF
    k_unmd
    try k_fold
    try dsimp only
    have hoN : ∀ p ∈ [(D, PyProof.Rows.LCg.lst ys), (lc, listOf vs'.toArray 0), (L + 1 + 1 + 1 + 1 + 1, oO), (L + 1 + 1 + 1 + 1, oE), (L + 1 + 1 + 1, oM), (L + 1, oC)], p.1 ≠ L + 1 + 1 := by
      simp only [PyProof.Rows.LCg.Off1] at o1
      obtain ⟨_, _, _, _, _, o1f, _⟩ := o1
      intro p hp
      simp only [List.mem_cons, List.not_mem_nil, or_false] at hp
      have l1' : @LT.lt Nat _ (L + 1 + 1 + 1 + 1 + 1) lc := l1
      rcases hp with rfl | rfl | rfl | rfl | rfl | rfl
      · exact Ne.symm o1f
      · intro e; have e2 : @Eq Nat lc (L + 1 + 1) := e; (first | exact absurd e2 (by assumption) | exact absurd e2.symm (by assumption) | (simp at e2; done) | omega)
      · intro e; have e2 : @Eq Nat (L + 1 + 1 + 1 + 1 + 1) (L + 1 + 1) := e; (first | exact absurd e2 (by assumption) | exact absurd e2.symm (by assumption) | (simp at e2; done) | omega)
      · intro e; have e2 : @Eq Nat (L + 1 + 1 + 1 + 1) (L + 1 + 1) := e; (first | exact absurd e2 (by assumption) | exact absurd e2.symm (by assumption) | (simp at e2; done) | omega)
      · intro e; have e2 : @Eq Nat (L + 1 + 1 + 1) (L + 1 + 1) := e; (first | exact absurd e2 (by assumption) | exact absurd e2.symm (by assumption) | (simp at e2; done) | omega)
      · intro e; have e2 : @Eq Nat (L + 1) (L + 1 + 1) := e; (first | exact absurd e2 (by assumption) | exact absurd e2.symm (by assumption) | (simp at e2; done) | omega)
    w_strict (repeat' ((fail_if_success (with_reducible show wpAny _ _ (storeName _ _ _) _ _ _)); first | (k_unfold; (try dsimp only)) | (k_end; wrow_close) | walk1 | (dsimp only; walk1) | (leave1; walk_say "STEP leave1"; try dsimp only) | fail "no step"))
    refine storeX_C (by k_asm) (cb_drop (news := (L + 1 + 1, oN) :: [(D, PyProof.Rows.LCg.lst ys), (lc, listOf vs'.toArray 0), (L + 1 + 1 + 1 + 1 + 1, oO), (L + 1 + 1 + 1 + 1, oE), (L + 1 + 1 + 1, oM), (L + 1, oC)]) N' ?sub) (by rfl) (UpdF.head hoN) dN ?_
    case sub => grind
    intro h5 o5 F5 N5 d5
    clear N' F'
    k_unmd
    try k_fold
    try dsimp only
    w_strict (repeat' ((fail_if_success (with_reducible show wpAny _ _ (eval (Expr.ListComp _ _ _ _) _) _ _ _)); first | (k_unfold; (try dsimp only)) | (k_end; wrow_close) | walk1 | (dsimp only; walk1) | (leave1; walk_say "STEP leave1"; try dsimp only) | fail "no step"))
    refine PyProof.Rows.LCg.ListComp_U (F₀ := by k_asm) (by with_unfolding_all rfl) (by decide) (by rfl) (by decide) (by rfl) ?_
    w_strict (repeat' ((fail_if_success (with_reducible show PyProof.Rows.LCg.CompSrc _ _ _ _ _ _ _ _ _ _ _ _ _ _)); first | (k_unfold; (try dsimp only)) | (k_end; wrow_close) | walk1 | (dsimp only; walk1) | (leave1; walk_say "STEP leave1"; try dsimp only) | fail "no step"))
    rename News _ _ _ _ => lN
    rename Fr _ _ _ _ => lF
    rename IsRange _ _ _ _ _ _ _ _ => rgX
    refine PyProof.Rows.LCg.CompSrc.range (n := 4) (by rfl) lF lN rgX (by decide) (by rfl) (by rw [sizeLine_eq]; omega) ?_
    intro g3
    refine compU_J (fun i ms n' => n' = _ ∧ IntsAre ms ((List.range i).map fun j : Nat => ((ns'.getD 4 0).fdiv (5 ^ j)).fmod 5)) ?turnB ?finB 4 0 [] _ (Nat.zero_add _) ⟨rfl, .nil⟩
    case turnB =>
      rintro i ms n' hi ⟨rfl, hms⟩ v I oI C oCc D2 m₂ h tk' E' ⟨tv, rfl⟩ hCc hx F' N' off ne
      have e0 : (0 + (i : Int)).toNat = i := by omega
      have hp5 : (5 : Int) ^ (0 + (i : Int)).toNat ≠ 0 := Int.ne_of_gt (Int.pow_pos (by decide))
      clear lN lF
      k_unmd
      try k_fold
      try dsimp only
      w_strict (repeat' (first | (k_unfold; (try dsimp only)) | (k_end; wrow_close) | walk1 | (dsimp only; walk1) | (leave1; walk_say "STEP leave1"; try dsimp only) | fail "no step"))
      · rename (5 : Int) ^ _ = 0 => hq
        exact absurd hq hp5
      · refine compEnd_same (by assumption) (by assumption) off trivial ⟨rfl, ?_⟩
        rw [e0, List.range_succ, List.map_append]
        exact hms.append (.cons _ _ .nil)
    case finB =>
      rintro ms n' ⟨rfl, hms⟩
      unfold PyProof.Rows.LCg.FinE
      intro D2 h' tk' F' N' o2
      clear lN lF
      k_unmd
      try k_fold
      try dsimp only
      w_strict (repeat' ((fail_if_success (with_reducible show wpAny _ _ (storeName _ _ _) _ _ _)); first | (k_unfold; (try dsimp only)) | (k_end; wrow_close) | walk1 | (dsimp only; walk1) | (leave1; walk_say "STEP leave1"; try dsimp only) | fail "no step"))
      simp only [PyProof.Rows.LCg.Off1] at o1 o2
      obtain ⟨o1a, o1b, o1c, o1d, o1e, o1f, o1g, -⟩ := o1
      obtain ⟨o2a, o2b, o2c, o2d, o2e, o2f, o2g, -⟩ := o2
      have l1' : @LT.lt Nat _ (L + 1 + 1 + 1 + 1 + 1) lc := l1
      have hoM : ∀ p ∈ [(D2, PyProof.Rows.LCg.lst ms), (L + 1 + 1, o5), (D, PyProof.Rows.LCg.lst ys), (lc, listOf vs'.toArray 0), (L + 1 + 1 + 1 + 1 + 1, oO), (L + 1 + 1 + 1 + 1, oE), (L + 1, oC)], p.1 ≠ L + 1 + 1 + 1 := by
        intro p hp
        simp only [List.mem_cons, List.not_mem_nil, or_false] at hp
        rcases hp with rfl | rfl | rfl | rfl | rfl | rfl | rfl
        · intro e; have e2 : @Eq Nat D2 (L + 1 + 1 + 1) := e; (first | exact absurd e2 (by assumption) | exact absurd e2.symm (by assumption) | (simp at e2; done) | omega)
        · intro e; have e2 : @Eq Nat (L + 1 + 1) (L + 1 + 1 + 1) := e; (first | exact absurd e2 (by assumption) | exact absurd e2.symm (by assumption) | (simp at e2; done) | omega)
        · intro e; have e2 : @Eq Nat D (L + 1 + 1 + 1) := e; (first | exact absurd e2 (by assumption) | exact absurd e2.symm (by assumption) | (simp at e2; done) | omega)
        · intro e; have e2 : @Eq Nat lc (L + 1 + 1 + 1) := e; (first | exact absurd e2 (by assumption) | exact absurd e2.symm (by assumption) | (simp at e2; done) | omega)
        · intro e; have e2 : @Eq Nat (L + 1 + 1 + 1 + 1 + 1) (L + 1 + 1 + 1) := e; (first | exact absurd e2 (by assumption) | exact absurd e2.symm (by assumption) | (simp at e2; done) | omega)
        · intro e; have e2 : @Eq Nat (L + 1 + 1 + 1 + 1) (L + 1 + 1 + 1) := e; (first | exact absurd e2 (by assumption) | exact absurd e2.symm (by assumption) | (simp at e2; done) | omega)
        · intro e; have e2 : @Eq Nat (L + 1) (L + 1 + 1 + 1) := e; (first | exact absurd e2 (by assumption) | exact absurd e2.symm (by assumption) | (simp at e2; done) | omega)
      refine storeX_C (by k_asm) (cb_drop (news := (L + 1 + 1 + 1, oM) :: [(D2, PyProof.Rows.LCg.lst ms), (L + 1 + 1, o5), (D, PyProof.Rows.LCg.lst ys), (lc, listOf vs'.toArray 0), (L + 1 + 1 + 1 + 1 + 1, oO), (L + 1 + 1 + 1 + 1, oE), (L + 1, oC)]) N' ?sub2) (by rfl) (UpdF.head hoM) dM ?_
      case sub2 => grind
      intro h6 o6 F6 N6 d6
      clear N' F'
      have hf5 := fm_in (ns'.getD (Int.toNat 5) 0) (m := 26) (by decide)
      have hf3 := fm_in ((ns'.getD (Int.toNat 5) 0).fdiv 26) (m := 3) (by decide)
      obtain ⟨hf5a, hf5b⟩ := hf5
      obtain ⟨hf3a, hf3b⟩ := hf3
      obtain ⟨na, nb, nc, nd, eN, hna, hnb, hnc, hnd⟩ := four_nums (l := n4.map fun z => (z + 1000000).fmod 2000001 - 1000000) (by rw [List.length_map, hn4]) (by
        intro n hn
        obtain ⟨z, hz, rfl⟩ := List.mem_map.mp hn
        have := fm_in (z + 1000000) (m := 2000001) (by decide)
        omega)
      obtain ⟨m0, m1, m2, m3, eM, hm0, hm1, hm2, hm3⟩ := four_marks (l := (List.range 4).map fun j : Nat => ((ns'.getD 4 0).fdiv (5 ^ j)).fmod 5) (by simp) (by
        intro n hn
        obtain ⟨z, hz, rfl⟩ := List.mem_map.mp hn
        exact fm_in _ (by decide))
      rw [eN] at hys
      rw [eM] at hms
      have N7 : News h₀ L h6 [(L + 1 + 1 + 1, o6), (D2, listOf ms.toArray ms.length), (L + 1 + 1, o5), (D, listOf ys.toArray ys.length), (lc, listOf vs'.toArray 0), (L + 1 + 1 + 1 + 1 + 1, oO), (L + 1 + 1 + 1 + 1, oE), (L + 1, oC)] := N6
      clear N6
      k_unmd
      try k_fold
      try dsimp only
      w_strict (repeat' ((fail_if_success (with_reducible show wpAny _ _ (call (Value.ref _) _) _ _ _)); first | (k_unfold; (try dsimp only)) | (k_end; wrow_close) | walk1 | (dsimp only; walk1) | (leave1; walk_say "STEP leave1"; try dsimp only) | fail "no step"))
      rename _ = Str.ofString "" ∨ _ => hx9
      obtain ⟨tl, hxt, htl, htl10⟩ := tail_of hx9
      have hl97 : 97 ≤ (97 + (ns'.getD (Int.toNat 5) 0).fmod 26).toNat ∧ (97 + (ns'.getD (Int.toNat 5) 0).fmod 26).toNat ≤ 122 := by omega
      rename Fr _ _ _ _ => lF
      rename News _ _ _ _ => lN
      rw [hxt] at lF
      rw [show Str.mk #[(97 + (ns'.getD (Int.toNat 5) 0).fmod 26).toNat] = tx [(97 + (ns'.getD (Int.toNat 5) 0).fmod 26).toNat] from rfl] at lF
      generalize hcE : (97 + (ns'.getD (Int.toNat 5) 0).fmod 26).toNat = cL at hl97 lF ⊢
      rename _ ∧ _ ∧ _ ∧ _ ∧ _ ∧ _ ∧ _ ∧ _ => l9
      obtain ⟨l9a, l9b, l9c, l9d, l9e, l9f, l9g, l9h⟩ := l9
      rename_i _ lt9 _ _ _ _ hT9
      obtain ⟨oT9, lN⟩ : ∃ oT : Obj, News h₀ L hT9 ((lt9, oT) :: [(L + 1 + 1 + 1, o6), (D2, listOf ms.toArray ms.length), (L + 1 + 1, o5), (D, listOf ys.toArray ys.length), (lc, listOf vs'.toArray 0), (L + 1 + 1 + 1 + 1 + 1, oO), (L + 1 + 1 + 1 + 1, oE), (L + 1, oC)]) := ⟨_, lN⟩
      k_dflt (refine' Con.use (choices_ok _ _ _ _ _ _ D ys ys.length [na, nb, nc, nd] D2 ms ms.length [(m0 : Int), m1, m2, m3] ?ch1 ?ch2 hys hms rfl rfl ?ch3 ?ch4) ?ck1 ?ck2 ?ck3 ?ck4 ?ck5 ?ckK ?ckd ?cku ?ckr)
      case ck1 => k_asm
      case ck2 => k_asm
      case ck3 => k_asm
      case ck4 => exact lN
      case ck5 => k_asm
      case ch1 => grind
      case ch2 => grind
      case ch3 =>
        intro n hn
        simp only [List.mem_cons, List.not_mem_nil, or_false] at hn
        omega
      case ch4 =>
        intro n hn
        simp only [List.mem_cons, List.not_mem_nil, or_false] at hn
        omega
      case ckK => rfl
      case ckd => first | ktr_room | decide
      case cku => first | ktr_units | decide
      intro vC nC hC tkC FC NC PC
      obtain ⟨lr, cvs, cnn, tlC, eC, eC2, hofC, hofT, hdC⟩ := PC
      subst eC
      subst eC2
      rw [chI_chs] at hdC
      clear lN lF
      k_unmd
      try k_fold
      try dsimp only
      w_strict (repeat' ((fail_if_success (with_reducible show wpAny _ _ (execs (Stmt.Assign [Expr.Tuple [Expr.Name (Str.ofString "table") _, _] _ _] _ _ :: _) _) _ _ _)); first | (k_unfold; (try dsimp only)) | (k_end; wrow_close) | walk1 | (dsimp only; walk1) | (leave1; walk_say "STEP leave1"; try dsimp only) | fail "no step"))
      rename Fr _ _ _ _ => lF
      rename News _ _ _ _ => lN
      have hofT2 : ∀ p ∈ tlC, p.1 ≠ L + 1 + 1 + 1 + 1 ∧ p.1 ≠ L + 1 + 1 + 1 + 1 + 1 := fun p hp => ⟨hofT p hp _ (by simp), hofT p hp _ (by simp)⟩
      refine law_mid w loose mean mg mb a ccd base h₀ L m _ Z cL _ tl _ lr cvs cnn D D2 ys ms ys.length ms.length na nb nc nd m0 m1 m2 m3 o5 o6 oE oO none none ((lr, listOf cvs.toArray cnn) :: (lt9, oT9) :: (L + 1 + 1 + 1, o6) :: (D2, listOf ms.toArray ms.length) :: (L + 1 + 1, o5) :: (D, listOf ys.toArray ys.length) :: (lc, listOf vs'.toArray 0) :: (L + 1, oC) :: tlC) B lF X XB T TB (cb_drop lN ?nsub) dE dO (List.Mem.tail _ (List.Mem.tail _ (List.Mem.tail _ (List.Mem.tail _ (List.Mem.head _))))) d5 (List.Mem.tail _ (List.Mem.tail _ (List.Mem.tail _ (List.Mem.tail _ (List.Mem.tail _ (List.Mem.head _)))))) hys (List.Mem.tail _ (List.Mem.tail _ (List.Mem.head _))) d6 (List.Mem.tail _ (List.Mem.tail _ (List.Mem.tail _ (List.Mem.head _)))) hms (List.Mem.head _) (datAll_seq ?dsub hdC) ?roff hl97 htl htl10 hna hnb hnc hnd hm0 hm1 hm2 hm3 hZ
      case nsub =>
        intro p hp
        simp only [List.mem_append, List.mem_cons, List.not_mem_nil, or_false] at hp ⊢
        rcases hp with hp | hp | hp | hp | hp | hp | hp | hp | hp | hp | hp <;> simp only [hp, true_or, or_true]
      case dsub =>
        intro p hp hq
        obtain ⟨aq, nq, hq⟩ := hq
        simp only [List.mem_append, List.mem_cons, List.not_mem_nil, or_false] at hp ⊢
        rcases hp with (rfl | rfl | rfl | rfl | rfl | rfl | rfl | rfl | rfl) | hp
        · simp
        · simp
        · simp
        · simp
        · simp
        · simp
        · rw [dO] at hq; cases hq
        · rw [dE] at hq; cases hq
        · simp
        · simp [hp]
      case roff =>
        intro p hp
        simp only [List.mem_cons] at hp
        have hlr := hofC (L + 1 + 1 + 1 + 1, oE) (by simp)
        have hlr2 := hofC (L + 1 + 1 + 1 + 1 + 1, oO) (by simp)
        rcases hp with rfl | rfl | rfl | rfl | rfl | rfl | rfl | rfl | hp
        · exact ⟨Ne.symm hlr, Ne.symm hlr2⟩
        · exact ⟨fun e => by have e2 : @Eq Nat lt9 (L + 1 + 1 + 1 + 1) := e; (first | exact absurd e2 (by assumption) | exact absurd e2.symm (by assumption) | (simp at e2; done) | omega), fun e => by have e2 : @Eq Nat lt9 (L + 1 + 1 + 1 + 1 + 1) := e; (first | exact absurd e2 (by assumption) | exact absurd e2.symm (by assumption) | (simp at e2; done) | omega)⟩
        · exact ⟨fun e => by have e2 : @Eq Nat (L + 1 + 1 + 1) (L + 1 + 1 + 1 + 1) := e; (first | exact absurd e2 (by assumption) | exact absurd e2.symm (by assumption) | (simp at e2; done) | omega), fun e => by have e2 : @Eq Nat (L + 1 + 1 + 1) (L + 1 + 1 + 1 + 1 + 1) := e; (first | exact absurd e2 (by assumption) | exact absurd e2.symm (by assumption) | (simp at e2; done) | omega)⟩
        · exact ⟨fun e => by have e2 : @Eq Nat D2 (L + 1 + 1 + 1 + 1) := e; (first | exact absurd e2 (by assumption) | exact absurd e2.symm (by assumption) | (simp at e2; done) | omega), fun e => by have e2 : @Eq Nat D2 (L + 1 + 1 + 1 + 1 + 1) := e; (first | exact absurd e2 (by assumption) | exact absurd e2.symm (by assumption) | (simp at e2; done) | omega)⟩
        · exact ⟨fun e => by have e2 : @Eq Nat (L + 1 + 1) (L + 1 + 1 + 1 + 1) := e; (first | exact absurd e2 (by assumption) | exact absurd e2.symm (by assumption) | (simp at e2; done) | omega), fun e => by have e2 : @Eq Nat (L + 1 + 1) (L + 1 + 1 + 1 + 1 + 1) := e; (first | exact absurd e2 (by assumption) | exact absurd e2.symm (by assumption) | (simp at e2; done) | omega)⟩
        · exact ⟨fun e => by have e2 : @Eq Nat D (L + 1 + 1 + 1 + 1) := e; (first | exact absurd e2 (by assumption) | exact absurd e2.symm (by assumption) | (simp at e2; done) | omega), fun e => by have e2 : @Eq Nat D (L + 1 + 1 + 1 + 1 + 1) := e; (first | exact absurd e2 (by assumption) | exact absurd e2.symm (by assumption) | (simp at e2; done) | omega)⟩
        · exact ⟨fun e => by have e2 : @Eq Nat lc (L + 1 + 1 + 1 + 1) := e; (first | exact absurd e2 (by assumption) | exact absurd e2.symm (by assumption) | (simp at e2; done) | omega), fun e => by have e2 : @Eq Nat lc (L + 1 + 1 + 1 + 1 + 1) := e; (first | exact absurd e2 (by assumption) | exact absurd e2.symm (by assumption) | (simp at e2; done) | omega)⟩
        · exact ⟨fun e => by have e2 : @Eq Nat (L + 1) (L + 1 + 1 + 1 + 1) := e; (first | exact absurd e2 (by assumption) | exact absurd e2.symm (by assumption) | (simp at e2; done) | omega), fun e => by have e2 : @Eq Nat (L + 1) (L + 1 + 1 + 1 + 1 + 1) := e; (first | exact absurd e2 (by assumption) | exact absurd e2.symm (by assumption) | (simp at e2; done) | omega)⟩
        · exact hofT2 p hp
end
section
local macro_rules | `(tactic| walk_at "pad") => `(tactic| fail)
open PySem PySem.W PyProof.Rows


local macro_rules | `(tactic| walk_at "mine tails") => `(tactic| (k_here; (with_reducible show wpAny _ _ (subscriptTail _ _ (Value.ref _) (Value.int _ _)) _ _ _); k_dflt ((with_unfolding_all refine' item_tails ?N ?m ?h0 ?h3 ?_); (case N => k_asm); (case m => k_mem)); (case h0 => assumption); (case h3 => assumption); intro x9 t9 hx9; (try dsimp only); (try k_fold)))
local macro_rules | `(tactic| walk_at "subscriptTail") => `(tactic| walk_at "mine tails")
local macro_rules | `(tactic| k_qdec) => `(tactic| with_reducible first | exact names_hd | exact imps_hd)
theorem law_all : PySem.Challenge.rw_ux0026_02.Holds := hd (by
  delta recLaw
  w_strict (k_go0; (all_goals try k_fold); repeat' ((fail_if_success (with_reducible show wpAny _ _ (call (Value.ref _) _) _ _ _)); first | (k_unfold; (try dsimp only)) | (k_end; wrow_close) | walk1 | (dsimp only; walk1) | (leave1; walk_say "STEP leave1"; try dsimp only) | fail "no step"))
  rename IntsAre _ _ => hI
  rename ¬ ((63 : Int) < _) => h63
  rename News _ _ _ _ => lN
  rename _ ∧ _ ∧ _ ∧ _ ∧ _ => l5
  k_dflt (refine' ConS.use (cells_ok _ _ _ _ _ _ _ _ _ _ _ [1, 2, 4, 8, 416, 75] _ hI ?c1 ?c2 (by decide) (by decide) ?c3) ?k1 ?k2 ?k3 ?k4 ?k5 ?kK ?kS ?kd ?ku ?kr; (case k1 => k_asm); (case k2 => k_asm); (case k3 => k_asm); (case k4 => exact lN); (case k5 => k_asm); (case kK => first | exact rfl | assumption))
  case c1 => omega
  case c2 => exact .cons _ _ (.cons _ _ (.cons _ _ (.cons _ _ (.cons _ _ (.cons _ _ .nil)))))
  case c3 =>
    obtain ⟨q1, q2, q3, q4, q5⟩ := l5
    intro p hp
    simp only [List.mem_cons, List.not_mem_nil, or_false] at hp
    rcases hp with rfl | rfl | rfl | rfl | rfl
    · exact Nat.ne_of_lt q1
    · exact Nat.ne_of_lt q2
    · exact Nat.ne_of_lt q3
    · exact Nat.ne_of_lt q4
    · exact Nat.ne_of_lt q5
  case kS => assumption
  case kd => first | ktr_room | decide
  case ku => first | ktr_units | decide
  intro v1 n1 h1 tk1 F1 N1 P1
  obtain ⟨e1, vs', ns', e2, hi', hlen⟩ := P1
  subst e1
  subst e2
  clear lN
  have hl6 : ns'.length = 6 := hlen
  have hl1000 : ns'.length ≤ 1000 := by omega
  k_unmd
  try k_fold
  try dsimp only
  w_strict (repeat' ((fail_if_success (with_reducible show wpAny _ _ (execs (Stmt.Assign [Expr.Name (Str.ofString "numbers") _] _ _ :: _) _) _ _ _)); first | (k_unfold; (try dsimp only)) | (k_end; wrow_close) | walk1 | (dsimp only; walk1) | (leave1; walk_say "STEP leave1"; try dsimp only) | fail "no step"))
  rename News _ _ _ _ => lN
  rename Fr _ _ _ _ => lF
  rename _ = Data.cell (some _) => dC
  k_unmd
  try k_unfold
  try dsimp only
  refine' law_rest _ _ _ _ _ _ _ _ _ _ _ _ (GoodW _ _ _ _ _) _ vs' ns' _ ?oN ?oM ?oE ?oO ?b1 ?b2 ?b3 ?b4 ?b5 ?b6 lN hi' hl6 dC ?b8 ?b9 ?b10 ?b11 l5.1 ?b13
  case b1 => assumption
  case b2 => assumption
  case b3 => k_in
  case b4 => k_in
  case b5 => assumption
  case b6 => assumption
  case b8 => assumption
  case b9 => assumption
  case b10 => assumption
  case b11 => assumption
  case b13 =>
    intro h9 tk9 m9 F9
    exact goodW_bool F9 (by assumption) (fun _ => rfl) (by wrow_post))
end
end Mine
theorem PySem.Challenge.cw_ux0026_02_holds : PySem.Challenge.rw_ux0026_02.Holds := by
  exact Mine.law_all
