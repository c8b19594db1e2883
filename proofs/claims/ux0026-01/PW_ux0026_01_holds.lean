import PyProof.Rows.All
import Wide.All
import OpenK.AllK
import Wide.FinOn
import PySem.Challenge.RW_ux0026_01
open PySem PySem.W PyProof.Rows
set_option Elab.async false
set_option linter.all false
set_option maxRecDepth 100000
set_option maxHeartbeats 8000000
set_option compiler.extract_closed false
section
namespace Mine
/-! the head: the written-out part of the heap; the functions' parameters, bodies and scopes are taken from the row -/
noncomputable def kE (P : Params) (s : String) (t : Tok) (v : Value) : DictEntry := DictEntry.mk (PyData.keyHash P (Str.ofString s)) (Value.str (Str.ofString s) t) v
noncomputable def fnOfS (s : Option Stmt) : Arguments × List Stmt × Scope := match s with | some (.FunctionDef _ ps b _ _ _ sc _ _ _) => (ps, b, sc) | _ => default
noncomputable def fnAt (p : Program) (i : Nat) : Arguments × List Stmt × Scope := fnOfS p.main.body[i]?
noncomputable def meAt (p : Program) (i j : Nat) : Arguments × List Stmt × Scope := match p.main.body[i]? with | some (.ClassDef _ _ _ b _ _ _ _ _ _ _) => fnOfS b[j]? | _ => default
noncomputable def f1p : Arguments := by
  refine (?f : ∀ b : Arguments, (fnAt PySem.Challenge.pw_ux0026_01 1).1 = b → Arguments) ?b ?h
  case h => conv => lhs; whnf
  case f => exact fun b _ => b
noncomputable def f1b : List Stmt := by
  refine (?f : ∀ b : List Stmt, (fnAt PySem.Challenge.pw_ux0026_01 1).2.1 = b → List Stmt) ?b ?h
  case h => conv => lhs; whnf
  case f => exact fun b _ => b
noncomputable def f1s : Scope := by
  refine (?f : ∀ b : Scope, (fnAt PySem.Challenge.pw_ux0026_01 1).2.2 = b → Scope) ?b ?h
  case h => conv => lhs; whnf
  case f => exact fun b _ => b
noncomputable def f14p : Arguments := by
  refine (?f : ∀ b : Arguments, (fnAt PySem.Challenge.pw_ux0026_01 14).1 = b → Arguments) ?b ?h
  case h => conv => lhs; whnf
  case f => exact fun b _ => b
noncomputable def f14b : List Stmt := by
  refine (?f : ∀ b : List Stmt, (fnAt PySem.Challenge.pw_ux0026_01 14).2.1 = b → List Stmt) ?b ?h
  case h => conv => lhs; whnf
  case f => exact fun b _ => b
noncomputable def f14s : Scope := by
  refine (?f : ∀ b : Scope, (fnAt PySem.Challenge.pw_ux0026_01 14).2.2 = b → Scope) ?b ?h
  case h => conv => lhs; whnf
  case f => exact fun b _ => b
noncomputable def f15p : Arguments := by
  refine (?f : ∀ b : Arguments, (fnAt PySem.Challenge.pw_ux0026_01 15).1 = b → Arguments) ?b ?h
  case h => conv => lhs; whnf
  case f => exact fun b _ => b
noncomputable def f15b : List Stmt := by
  refine (?f : ∀ b : List Stmt, (fnAt PySem.Challenge.pw_ux0026_01 15).2.1 = b → List Stmt) ?b ?h
  case h => conv => lhs; whnf
  case f => exact fun b _ => b
noncomputable def f15s : Scope := by
  refine (?f : ∀ b : Scope, (fnAt PySem.Challenge.pw_ux0026_01 15).2.2 = b → Scope) ?b ?h
  case h => conv => lhs; whnf
  case f => exact fun b _ => b
noncomputable def f16p : Arguments := by
  refine (?f : ∀ b : Arguments, (fnAt PySem.Challenge.pw_ux0026_01 16).1 = b → Arguments) ?b ?h
  case h => conv => lhs; whnf
  case f => exact fun b _ => b
noncomputable def f16b : List Stmt := by
  refine (?f : ∀ b : List Stmt, (fnAt PySem.Challenge.pw_ux0026_01 16).2.1 = b → List Stmt) ?b ?h
  case h => conv => lhs; whnf
  case f => exact fun b _ => b
noncomputable def f16s : Scope := by
  refine (?f : ∀ b : Scope, (fnAt PySem.Challenge.pw_ux0026_01 16).2.2 = b → Scope) ?b ?h
  case h => conv => lhs; whnf
  case f => exact fun b _ => b
noncomputable def f17p : Arguments := by
  refine (?f : ∀ b : Arguments, (fnAt PySem.Challenge.pw_ux0026_01 17).1 = b → Arguments) ?b ?h
  case h => conv => lhs; whnf
  case f => exact fun b _ => b
noncomputable def f17b : List Stmt := by
  refine (?f : ∀ b : List Stmt, (fnAt PySem.Challenge.pw_ux0026_01 17).2.1 = b → List Stmt) ?b ?h
  case h => conv => lhs; whnf
  case f => exact fun b _ => b
noncomputable def f17s : Scope := by
  refine (?f : ∀ b : Scope, (fnAt PySem.Challenge.pw_ux0026_01 17).2.2 = b → Scope) ?b ?h
  case h => conv => lhs; whnf
  case f => exact fun b _ => b
noncomputable def f18p : Arguments := by
  refine (?f : ∀ b : Arguments, (fnAt PySem.Challenge.pw_ux0026_01 18).1 = b → Arguments) ?b ?h
  case h => conv => lhs; whnf
  case f => exact fun b _ => b
noncomputable def f18b : List Stmt := by
  refine (?f : ∀ b : List Stmt, (fnAt PySem.Challenge.pw_ux0026_01 18).2.1 = b → List Stmt) ?b ?h
  case h => conv => lhs; whnf
  case f => exact fun b _ => b
noncomputable def f18s : Scope := by
  refine (?f : ∀ b : Scope, (fnAt PySem.Challenge.pw_ux0026_01 18).2.2 = b → Scope) ?b ?h
  case h => conv => lhs; whnf
  case f => exact fun b _ => b
noncomputable def f19p : Arguments := by
  refine (?f : ∀ b : Arguments, (fnAt PySem.Challenge.pw_ux0026_01 19).1 = b → Arguments) ?b ?h
  case h => conv => lhs; whnf
  case f => exact fun b _ => b
noncomputable def f19b : List Stmt := by
  refine (?f : ∀ b : List Stmt, (fnAt PySem.Challenge.pw_ux0026_01 19).2.1 = b → List Stmt) ?b ?h
  case h => conv => lhs; whnf
  case f => exact fun b _ => b
noncomputable def f19s : Scope := by
  refine (?f : ∀ b : Scope, (fnAt PySem.Challenge.pw_ux0026_01 19).2.2 = b → Scope) ?b ?h
  case h => conv => lhs; whnf
  case f => exact fun b _ => b
noncomputable def f20p : Arguments := by
  refine (?f : ∀ b : Arguments, (fnAt PySem.Challenge.pw_ux0026_01 20).1 = b → Arguments) ?b ?h
  case h => conv => lhs; whnf
  case f => exact fun b _ => b
noncomputable def f20b : List Stmt := by
  refine (?f : ∀ b : List Stmt, (fnAt PySem.Challenge.pw_ux0026_01 20).2.1 = b → List Stmt) ?b ?h
  case h => conv => lhs; whnf
  case f => exact fun b _ => b
noncomputable def f20s : Scope := by
  refine (?f : ∀ b : Scope, (fnAt PySem.Challenge.pw_ux0026_01 20).2.2 = b → Scope) ?b ?h
  case h => conv => lhs; whnf
  case f => exact fun b _ => b
noncomputable def f21p : Arguments := by
  refine (?f : ∀ b : Arguments, (fnAt PySem.Challenge.pw_ux0026_01 21).1 = b → Arguments) ?b ?h
  case h => conv => lhs; whnf
  case f => exact fun b _ => b
noncomputable def f21b : List Stmt := by
  refine (?f : ∀ b : List Stmt, (fnAt PySem.Challenge.pw_ux0026_01 21).2.1 = b → List Stmt) ?b ?h
  case h => conv => lhs; whnf
  case f => exact fun b _ => b
noncomputable def f21s : Scope := by
  refine (?f : ∀ b : Scope, (fnAt PySem.Challenge.pw_ux0026_01 21).2.2 = b → Scope) ?b ?h
  case h => conv => lhs; whnf
  case f => exact fun b _ => b
noncomputable def f3p : Arguments := by
  refine (?f : ∀ b : Arguments, (fnAt PySem.Challenge.pw_ux0026_01 3).1 = b → Arguments) ?b ?h
  case h => conv => lhs; whnf
  case f => exact fun b _ => b
noncomputable def f3b : List Stmt := by
  refine (?f : ∀ b : List Stmt, (fnAt PySem.Challenge.pw_ux0026_01 3).2.1 = b → List Stmt) ?b ?h
  case h => conv => lhs; whnf
  case f => exact fun b _ => b
noncomputable def f3s : Scope := by
  refine (?f : ∀ b : Scope, (fnAt PySem.Challenge.pw_ux0026_01 3).2.2 = b → Scope) ?b ?h
  case h => conv => lhs; whnf
  case f => exact fun b _ => b
noncomputable def f4p : Arguments := by
  refine (?f : ∀ b : Arguments, (fnAt PySem.Challenge.pw_ux0026_01 4).1 = b → Arguments) ?b ?h
  case h => conv => lhs; whnf
  case f => exact fun b _ => b
noncomputable def f4b : List Stmt := by
  refine (?f : ∀ b : List Stmt, (fnAt PySem.Challenge.pw_ux0026_01 4).2.1 = b → List Stmt) ?b ?h
  case h => conv => lhs; whnf
  case f => exact fun b _ => b
noncomputable def f4s : Scope := by
  refine (?f : ∀ b : Scope, (fnAt PySem.Challenge.pw_ux0026_01 4).2.2 = b → Scope) ?b ?h
  case h => conv => lhs; whnf
  case f => exact fun b _ => b
noncomputable def f8p : Arguments := by
  refine (?f : ∀ b : Arguments, (fnAt PySem.Challenge.pw_ux0026_01 8).1 = b → Arguments) ?b ?h
  case h => conv => lhs; whnf
  case f => exact fun b _ => b
noncomputable def f8b : List Stmt := by
  refine (?f : ∀ b : List Stmt, (fnAt PySem.Challenge.pw_ux0026_01 8).2.1 = b → List Stmt) ?b ?h
  case h => conv => lhs; whnf
  case f => exact fun b _ => b
noncomputable def f8s : Scope := by
  refine (?f : ∀ b : Scope, (fnAt PySem.Challenge.pw_ux0026_01 8).2.2 = b → Scope) ?b ?h
  case h => conv => lhs; whnf
  case f => exact fun b _ => b
noncomputable def m12x0p : Arguments := by
  refine (?f : ∀ b : Arguments, (meAt PySem.Challenge.pw_ux0026_01 12 0).1 = b → Arguments) ?b ?h
  case h => conv => lhs; whnf
  case f => exact fun b _ => b
noncomputable def m12x0b : List Stmt := by
  refine (?f : ∀ b : List Stmt, (meAt PySem.Challenge.pw_ux0026_01 12 0).2.1 = b → List Stmt) ?b ?h
  case h => conv => lhs; whnf
  case f => exact fun b _ => b
noncomputable def m12x0s : Scope := by
  refine (?f : ∀ b : Scope, (meAt PySem.Challenge.pw_ux0026_01 12 0).2.2 = b → Scope) ?b ?h
  case h => conv => lhs; whnf
  case f => exact fun b _ => b
noncomputable def m12x1p : Arguments := by
  refine (?f : ∀ b : Arguments, (meAt PySem.Challenge.pw_ux0026_01 12 1).1 = b → Arguments) ?b ?h
  case h => conv => lhs; whnf
  case f => exact fun b _ => b
noncomputable def m12x1b : List Stmt := by
  refine (?f : ∀ b : List Stmt, (meAt PySem.Challenge.pw_ux0026_01 12 1).2.1 = b → List Stmt) ?b ?h
  case h => conv => lhs; whnf
  case f => exact fun b _ => b
noncomputable def m12x1s : Scope := by
  refine (?f : ∀ b : Scope, (meAt PySem.Challenge.pw_ux0026_01 12 1).2.2 = b → Scope) ?b ?h
  case h => conv => lhs; whnf
  case f => exact fun b _ => b
noncomputable def m12x10p : Arguments := by
  refine (?f : ∀ b : Arguments, (meAt PySem.Challenge.pw_ux0026_01 12 10).1 = b → Arguments) ?b ?h
  case h => conv => lhs; whnf
  case f => exact fun b _ => b
noncomputable def m12x10b : List Stmt := by
  refine (?f : ∀ b : List Stmt, (meAt PySem.Challenge.pw_ux0026_01 12 10).2.1 = b → List Stmt) ?b ?h
  case h => conv => lhs; whnf
  case f => exact fun b _ => b
noncomputable def m12x10s : Scope := by
  refine (?f : ∀ b : Scope, (meAt PySem.Challenge.pw_ux0026_01 12 10).2.2 = b → Scope) ?b ?h
  case h => conv => lhs; whnf
  case f => exact fun b _ => b
noncomputable def m12x11p : Arguments := by
  refine (?f : ∀ b : Arguments, (meAt PySem.Challenge.pw_ux0026_01 12 11).1 = b → Arguments) ?b ?h
  case h => conv => lhs; whnf
  case f => exact fun b _ => b
noncomputable def m12x11b : List Stmt := by
  refine (?f : ∀ b : List Stmt, (meAt PySem.Challenge.pw_ux0026_01 12 11).2.1 = b → List Stmt) ?b ?h
  case h => conv => lhs; whnf
  case f => exact fun b _ => b
noncomputable def m12x11s : Scope := by
  refine (?f : ∀ b : Scope, (meAt PySem.Challenge.pw_ux0026_01 12 11).2.2 = b → Scope) ?b ?h
  case h => conv => lhs; whnf
  case f => exact fun b _ => b
noncomputable def m12x12p : Arguments := by
  refine (?f : ∀ b : Arguments, (meAt PySem.Challenge.pw_ux0026_01 12 12).1 = b → Arguments) ?b ?h
  case h => conv => lhs; whnf
  case f => exact fun b _ => b
noncomputable def m12x12b : List Stmt := by
  refine (?f : ∀ b : List Stmt, (meAt PySem.Challenge.pw_ux0026_01 12 12).2.1 = b → List Stmt) ?b ?h
  case h => conv => lhs; whnf
  case f => exact fun b _ => b
noncomputable def m12x12s : Scope := by
  refine (?f : ∀ b : Scope, (meAt PySem.Challenge.pw_ux0026_01 12 12).2.2 = b → Scope) ?b ?h
  case h => conv => lhs; whnf
  case f => exact fun b _ => b
noncomputable def m12x13p : Arguments := by
  refine (?f : ∀ b : Arguments, (meAt PySem.Challenge.pw_ux0026_01 12 13).1 = b → Arguments) ?b ?h
  case h => conv => lhs; whnf
  case f => exact fun b _ => b
noncomputable def m12x13b : List Stmt := by
  refine (?f : ∀ b : List Stmt, (meAt PySem.Challenge.pw_ux0026_01 12 13).2.1 = b → List Stmt) ?b ?h
  case h => conv => lhs; whnf
  case f => exact fun b _ => b
noncomputable def m12x13s : Scope := by
  refine (?f : ∀ b : Scope, (meAt PySem.Challenge.pw_ux0026_01 12 13).2.2 = b → Scope) ?b ?h
  case h => conv => lhs; whnf
  case f => exact fun b _ => b
noncomputable def m12x14p : Arguments := by
  refine (?f : ∀ b : Arguments, (meAt PySem.Challenge.pw_ux0026_01 12 14).1 = b → Arguments) ?b ?h
  case h => conv => lhs; whnf
  case f => exact fun b _ => b
noncomputable def m12x14b : List Stmt := by
  refine (?f : ∀ b : List Stmt, (meAt PySem.Challenge.pw_ux0026_01 12 14).2.1 = b → List Stmt) ?b ?h
  case h => conv => lhs; whnf
  case f => exact fun b _ => b
noncomputable def m12x14s : Scope := by
  refine (?f : ∀ b : Scope, (meAt PySem.Challenge.pw_ux0026_01 12 14).2.2 = b → Scope) ?b ?h
  case h => conv => lhs; whnf
  case f => exact fun b _ => b
noncomputable def m12x15p : Arguments := by
  refine (?f : ∀ b : Arguments, (meAt PySem.Challenge.pw_ux0026_01 12 15).1 = b → Arguments) ?b ?h
  case h => conv => lhs; whnf
  case f => exact fun b _ => b
noncomputable def m12x15b : List Stmt := by
  refine (?f : ∀ b : List Stmt, (meAt PySem.Challenge.pw_ux0026_01 12 15).2.1 = b → List Stmt) ?b ?h
  case h => conv => lhs; whnf
  case f => exact fun b _ => b
noncomputable def m12x15s : Scope := by
  refine (?f : ∀ b : Scope, (meAt PySem.Challenge.pw_ux0026_01 12 15).2.2 = b → Scope) ?b ?h
  case h => conv => lhs; whnf
  case f => exact fun b _ => b
noncomputable def m12x16p : Arguments := by
  refine (?f : ∀ b : Arguments, (meAt PySem.Challenge.pw_ux0026_01 12 16).1 = b → Arguments) ?b ?h
  case h => conv => lhs; whnf
  case f => exact fun b _ => b
noncomputable def m12x16b : List Stmt := by
  refine (?f : ∀ b : List Stmt, (meAt PySem.Challenge.pw_ux0026_01 12 16).2.1 = b → List Stmt) ?b ?h
  case h => conv => lhs; whnf
  case f => exact fun b _ => b
noncomputable def m12x16s : Scope := by
  refine (?f : ∀ b : Scope, (meAt PySem.Challenge.pw_ux0026_01 12 16).2.2 = b → Scope) ?b ?h
  case h => conv => lhs; whnf
  case f => exact fun b _ => b
noncomputable def m12x2p : Arguments := by
  refine (?f : ∀ b : Arguments, (meAt PySem.Challenge.pw_ux0026_01 12 2).1 = b → Arguments) ?b ?h
  case h => conv => lhs; whnf
  case f => exact fun b _ => b
noncomputable def m12x2b : List Stmt := by
  refine (?f : ∀ b : List Stmt, (meAt PySem.Challenge.pw_ux0026_01 12 2).2.1 = b → List Stmt) ?b ?h
  case h => conv => lhs; whnf
  case f => exact fun b _ => b
noncomputable def m12x2s : Scope := by
  refine (?f : ∀ b : Scope, (meAt PySem.Challenge.pw_ux0026_01 12 2).2.2 = b → Scope) ?b ?h
  case h => conv => lhs; whnf
  case f => exact fun b _ => b
noncomputable def m12x3p : Arguments := by
  refine (?f : ∀ b : Arguments, (meAt PySem.Challenge.pw_ux0026_01 12 3).1 = b → Arguments) ?b ?h
  case h => conv => lhs; whnf
  case f => exact fun b _ => b
noncomputable def m12x3b : List Stmt := by
  refine (?f : ∀ b : List Stmt, (meAt PySem.Challenge.pw_ux0026_01 12 3).2.1 = b → List Stmt) ?b ?h
  case h => conv => lhs; whnf
  case f => exact fun b _ => b
noncomputable def m12x3s : Scope := by
  refine (?f : ∀ b : Scope, (meAt PySem.Challenge.pw_ux0026_01 12 3).2.2 = b → Scope) ?b ?h
  case h => conv => lhs; whnf
  case f => exact fun b _ => b
noncomputable def m12x4p : Arguments := by
  refine (?f : ∀ b : Arguments, (meAt PySem.Challenge.pw_ux0026_01 12 4).1 = b → Arguments) ?b ?h
  case h => conv => lhs; whnf
  case f => exact fun b _ => b
noncomputable def m12x4b : List Stmt := by
  refine (?f : ∀ b : List Stmt, (meAt PySem.Challenge.pw_ux0026_01 12 4).2.1 = b → List Stmt) ?b ?h
  case h => conv => lhs; whnf
  case f => exact fun b _ => b
noncomputable def m12x4s : Scope := by
  refine (?f : ∀ b : Scope, (meAt PySem.Challenge.pw_ux0026_01 12 4).2.2 = b → Scope) ?b ?h
  case h => conv => lhs; whnf
  case f => exact fun b _ => b
noncomputable def m12x5p : Arguments := by
  refine (?f : ∀ b : Arguments, (meAt PySem.Challenge.pw_ux0026_01 12 5).1 = b → Arguments) ?b ?h
  case h => conv => lhs; whnf
  case f => exact fun b _ => b
noncomputable def m12x5b : List Stmt := by
  refine (?f : ∀ b : List Stmt, (meAt PySem.Challenge.pw_ux0026_01 12 5).2.1 = b → List Stmt) ?b ?h
  case h => conv => lhs; whnf
  case f => exact fun b _ => b
noncomputable def m12x5s : Scope := by
  refine (?f : ∀ b : Scope, (meAt PySem.Challenge.pw_ux0026_01 12 5).2.2 = b → Scope) ?b ?h
  case h => conv => lhs; whnf
  case f => exact fun b _ => b
noncomputable def m12x6p : Arguments := by
  refine (?f : ∀ b : Arguments, (meAt PySem.Challenge.pw_ux0026_01 12 6).1 = b → Arguments) ?b ?h
  case h => conv => lhs; whnf
  case f => exact fun b _ => b
noncomputable def m12x6b : List Stmt := by
  refine (?f : ∀ b : List Stmt, (meAt PySem.Challenge.pw_ux0026_01 12 6).2.1 = b → List Stmt) ?b ?h
  case h => conv => lhs; whnf
  case f => exact fun b _ => b
noncomputable def m12x6s : Scope := by
  refine (?f : ∀ b : Scope, (meAt PySem.Challenge.pw_ux0026_01 12 6).2.2 = b → Scope) ?b ?h
  case h => conv => lhs; whnf
  case f => exact fun b _ => b
noncomputable def m12x7p : Arguments := by
  refine (?f : ∀ b : Arguments, (meAt PySem.Challenge.pw_ux0026_01 12 7).1 = b → Arguments) ?b ?h
  case h => conv => lhs; whnf
  case f => exact fun b _ => b
noncomputable def m12x7b : List Stmt := by
  refine (?f : ∀ b : List Stmt, (meAt PySem.Challenge.pw_ux0026_01 12 7).2.1 = b → List Stmt) ?b ?h
  case h => conv => lhs; whnf
  case f => exact fun b _ => b
noncomputable def m12x7s : Scope := by
  refine (?f : ∀ b : Scope, (meAt PySem.Challenge.pw_ux0026_01 12 7).2.2 = b → Scope) ?b ?h
  case h => conv => lhs; whnf
  case f => exact fun b _ => b
noncomputable def m12x8p : Arguments := by
  refine (?f : ∀ b : Arguments, (meAt PySem.Challenge.pw_ux0026_01 12 8).1 = b → Arguments) ?b ?h
  case h => conv => lhs; whnf
  case f => exact fun b _ => b
noncomputable def m12x8b : List Stmt := by
  refine (?f : ∀ b : List Stmt, (meAt PySem.Challenge.pw_ux0026_01 12 8).2.1 = b → List Stmt) ?b ?h
  case h => conv => lhs; whnf
  case f => exact fun b _ => b
noncomputable def m12x8s : Scope := by
  refine (?f : ∀ b : Scope, (meAt PySem.Challenge.pw_ux0026_01 12 8).2.2 = b → Scope) ?b ?h
  case h => conv => lhs; whnf
  case f => exact fun b _ => b
noncomputable def m12x9p : Arguments := by
  refine (?f : ∀ b : Arguments, (meAt PySem.Challenge.pw_ux0026_01 12 9).1 = b → Arguments) ?b ?h
  case h => conv => lhs; whnf
  case f => exact fun b _ => b
noncomputable def m12x9b : List Stmt := by
  refine (?f : ∀ b : List Stmt, (meAt PySem.Challenge.pw_ux0026_01 12 9).2.1 = b → List Stmt) ?b ?h
  case h => conv => lhs; whnf
  case f => exact fun b _ => b
noncomputable def m12x9s : Scope := by
  refine (?f : ∀ b : Scope, (meAt PySem.Challenge.pw_ux0026_01 12 9).2.2 = b → Scope) ?b ?h
  case h => conv => lhs; whnf
  case f => exact fun b _ => b
noncomputable def heapK : Params → Frag := by
  refine (?f : ∀ K : Params → Frag, (fun P : Params => (((nat_lit 2), Obj.mk (Value.none) (@Option.none Nat) (Data.dict (#[kE P "\x69mport.loaded._sre" (183 : Nat) (Value.bool (Bool.true)), kE P "class._frozen_importlib.BuiltinImporter" (185 : Nat) (Value.ref ((14 : Nat))), kE P "watched.\x69mport" (206 : Nat) (Value.ref ((18 : Nat))), kE P "class._frozen_importlib.ModuleSpec" (216 : Nat) (Value.ref ((22 : Nat))), kE P "sys.modules.booked-epoch" (245 : Nat) (Value.int (3) ((0 : Nat))), kE P "\x69mport.later-laid._sre" (270 : Nat) (Value.bool (Bool.true)), kE P "watched.library" (272 : Nat) (Value.ref ((27 : Nat))), kE P "watched.library-objects" (0 : Nat) (Value.str (Str.ofString ("\x0c")) ((0 : Nat))), kE P "watched.library-deep._sre" (273 : Nat) (Value.str (Str.ofString ("\x04\x00\x00\x0b\x04\x00\x00\x0b\x04\x00\x00\x03\x04\x00\x00\x0b\x08\x04dict\x02")) ((0 : Nat))), kE P "type.__subclasses__.Exception.0" (336 : Nat) (Value.int (66) ((0 : Nat))), kE P "type.__subclasses__.Exception.n" (337 : Nat) (Value.int (1) ((0 : Nat)))]) ((11 : Nat))) (#[])) ::
    ((nat_lit 3), Obj.mk (Value.type ("dict")) (@Option.none Nat) (Data.dict ((List.toArray ((kE P "__name__" (165 : Nat) (Value.str (Str.ofString ("law_ux0026_01")) ((585 : Nat)))) :: (kE P "__doc__" (166 : Nat) (Value.none)) :: (kE P "__package__" (167 : Nat) (Value.none)) :: (kE P "__loader__" (168 : Nat) (Value.builtin ("__main__.__loader__#opaque"))) :: (kE P "__spec__" (169 : Nat) (Value.none)) :: (kE P "__annotations__" (170 : Nat) (Value.ref ((6 : Nat)))) :: (kE P "__builtins__" (171 : Nat) (Value.ref ((4 : Nat)))) :: (kE P "__file__" (173 : Nat) (Value.str (Str.ofString ("/claim/cut.py")) ((172 : Nat)))) :: (kE P "__cached__" (174 : Nat) (Value.none)) :: (kE P "_sre" (275 : Nat) (Value.ref ((12 : Nat)))) :: (kE P "_wall" (288 : Nat) (Value.ref ((38 : Nat)))) :: (kE P "insort_right" (303 : Nat) (Value.ref ((47 : Nat)))) :: (kE P "bisect_right" (317 : Nat) (Value.ref ((56 : Nat)))) :: (kE P "Error" (339 : Nat) (Value.ref ((66 : Nat)))) :: (kE P "error_reply" (355 : Nat) (Value.ref ((79 : Nat)))) :: (kE P "parse257" (366 : Nat) (Value.ref ((88 : Nat)))) :: (kE P "_name_disallowed_re" (394 : Nat) (Value.ref ((93 : Nat)))) :: (kE P "_value_disallowed_re" (428 : Nat) (Value.ref ((98 : Nat)))) :: (kE P "Headers" (584 : Nat) (Value.ref ((221 : Nat)))) :: (kE P "_law_cells" (595 : Nat) (Value.ref ((232 : Nat)))) :: (kE P "_law_part" (607 : Nat) (Value.ref ((239 : Nat)))) :: (kE P "_law_rows" (620 : Nat) (Value.ref ((246 : Nat)))) :: (kE P "_law_order" (630 : Nat) (Value.ref ((253 : Nat)))) :: (kE P "_law_ring" (636 : Nat) (Value.ref ((258 : Nat)))) :: (kE P "_law_due" (642 : Nat) (Value.ref ((263 : Nat)))) :: (kE P "_law_refused" (649 : Nat) (Value.ref ((270 : Nat)))) :: (kE P "law" (655 : Nat) (Value.ref ((275 : Nat)))) :: []))) ((27 : Nat))) (#[])) ::
    ((nat_lit 32), Obj.mk (Value.type ("tuple")) (@Option.none Nat) (Data.seq (#[]) ((0 : Nat))) (#[])) ::
    ((nat_lit 34), Obj.mk (Value.type ("tuple")) (@Option.none Nat) (Data.seq (#[Value.str (Str.ofString ("k")) ((285 : Nat))]) ((0 : Nat))) (#[])) ::
    ((nat_lit 35), Obj.mk (Value.type ("tuple")) (@Option.none Nat) (Data.seq (#[]) ((0 : Nat))) (#[])) ::
    ((nat_lit 37), Obj.mk (Value.type ("code")) (@Option.none Nat) (Data.fields ((List.toArray ((Value.str (Str.ofString ("_wall")) ((282 : Nat))) :: (Value.str (Str.ofString ("_wall")) ((283 : Nat))) :: (Value.str (Str.ofString ("/claim/cut.py")) ((284 : Nat))) :: (Value.int (2) ((0 : Nat))) :: (Value.int (1) ((0 : Nat))) :: (Value.int (0) ((0 : Nat))) :: (Value.int (0) ((0 : Nat))) :: (Value.int (3) ((0 : Nat))) :: (Value.ref ((32 : Nat))) :: (Value.bool (Bool.true)) :: (Value.int (276) ((0 : Nat))) :: (Value.ref ((33 : Nat))) :: (Value.none) :: (Value.ref ((34 : Nat))) :: (Value.ref ((35 : Nat))) :: (Value.ref ((36 : Nat))) :: (Value.int (286) ((0 : Nat))) :: (Value.int (2) ((0 : Nat))) :: (Value.str (Str.ofString ("/claim/cut.py")) ((287 : Nat))) :: [])))) (#[])) ::
    ((nat_lit 38), Obj.mk (Value.type ("function")) (@Option.none Nat) (Data.func (FuncData.mk (Str.ofString ("_wall")) (Str.ofString ("_wall")) f1p (FuncBody.stmts f1b) f1s ((3 : Nat)) (@List.nil (Str × Nat)) (Value.none) (Value.none) (Value.none) (Value.str (Str.ofString ("__main__")) ((164 : Nat))) (@Option.none Nat) (Value.ref ((37 : Nat))) (Value.none) ((0 : Nat)))) (#[])) ::
    ((nat_lit 39), Obj.mk (Value.type ("tuple")) (@Option.none Nat) (Data.seq (#[Value.int (0) ((291 : Nat)), Value.none]) ((0 : Nat))) (#[])) ::
    ((nat_lit 40), Obj.mk (Value.type ("dict")) (@Option.none Nat) (Data.dict (#[kE P "key" (292 : Nat) (Value.none)]) ((1 : Nat))) (#[])) ::
    ((nat_lit 41), Obj.mk (Value.type ("tuple")) (@Option.none Nat) (Data.seq (#[]) ((0 : Nat))) (#[])) ::
    ((nat_lit 43), Obj.mk (Value.type ("tuple")) (@Option.none Nat) (Data.seq (#[Value.str (Str.ofString ("a")) ((296 : Nat)), Value.str (Str.ofString ("x")) ((297 : Nat)), Value.str (Str.ofString ("lo")) ((298 : Nat)), Value.str (Str.ofString ("hi")) ((299 : Nat)), Value.str (Str.ofString ("key")) ((300 : Nat))]) ((0 : Nat))) (#[])) ::
    ((nat_lit 44), Obj.mk (Value.type ("tuple")) (@Option.none Nat) (Data.seq (#[]) ((0 : Nat))) (#[])) ::
    ((nat_lit 46), Obj.mk (Value.type ("code")) (@Option.none Nat) (Data.fields ((List.toArray ((Value.str (Str.ofString ("insort_right")) ((293 : Nat))) :: (Value.str (Str.ofString ("insort_right")) ((294 : Nat))) :: (Value.str (Str.ofString ("/claim/cut.py")) ((295 : Nat))) :: (Value.int (6) ((0 : Nat))) :: (Value.int (4) ((0 : Nat))) :: (Value.int (0) ((0 : Nat))) :: (Value.int (1) ((0 : Nat))) :: (Value.int (3) ((0 : Nat))) :: (Value.ref ((41 : Nat))) :: (Value.bool (Bool.true)) :: (Value.int (276) ((0 : Nat))) :: (Value.ref ((42 : Nat))) :: (Value.none) :: (Value.ref ((43 : Nat))) :: (Value.ref ((44 : Nat))) :: (Value.ref ((45 : Nat))) :: (Value.int (301) ((0 : Nat))) :: (Value.int (6) ((0 : Nat))) :: (Value.str (Str.ofString ("/claim/cut.py")) ((302 : Nat))) :: [])))) (#[])) ::
    ((nat_lit 47), Obj.mk (Value.type ("function")) (@Option.none Nat) (Data.func (FuncData.mk (Str.ofString ("insort_right")) (Str.ofString ("insort_right")) f3p (FuncBody.stmts f3b) f3s ((3 : Nat)) (@List.nil (Str × Nat)) (Value.ref ((39 : Nat))) (Value.ref ((40 : Nat))) (Value.none) (Value.str (Str.ofString ("cpy313.bisect")) ((289 : Nat))) (@Option.none Nat) (Value.ref ((46 : Nat))) (Value.none) ((0 : Nat)))) (#[])) ::
    ((nat_lit 48), Obj.mk (Value.type ("tuple")) (@Option.none Nat) (Data.seq (#[Value.int (0) ((304 : Nat)), Value.none]) ((0 : Nat))) (#[])) ::
    ((nat_lit 49), Obj.mk (Value.type ("dict")) (@Option.none Nat) (Data.dict (#[kE P "key" (305 : Nat) (Value.none)]) ((1 : Nat))) (#[])) ::
    ((nat_lit 50), Obj.mk (Value.type ("tuple")) (@Option.none Nat) (Data.seq (#[]) ((0 : Nat))) (#[])) ::
    ((nat_lit 52), Obj.mk (Value.type ("tuple")) (@Option.none Nat) (Data.seq (#[Value.str (Str.ofString ("a")) ((309 : Nat)), Value.str (Str.ofString ("x")) ((310 : Nat)), Value.str (Str.ofString ("lo")) ((311 : Nat)), Value.str (Str.ofString ("hi")) ((312 : Nat)), Value.str (Str.ofString ("key")) ((313 : Nat)), Value.str (Str.ofString ("mid")) ((314 : Nat))]) ((0 : Nat))) (#[])) ::
    ((nat_lit 53), Obj.mk (Value.type ("tuple")) (@Option.none Nat) (Data.seq (#[]) ((0 : Nat))) (#[])) ::
    ((nat_lit 55), Obj.mk (Value.type ("code")) (@Option.none Nat) (Data.fields ((List.toArray ((Value.str (Str.ofString ("bisect_right")) ((306 : Nat))) :: (Value.str (Str.ofString ("bisect_right")) ((307 : Nat))) :: (Value.str (Str.ofString ("/claim/cut.py")) ((308 : Nat))) :: (Value.int (12) ((0 : Nat))) :: (Value.int (4) ((0 : Nat))) :: (Value.int (0) ((0 : Nat))) :: (Value.int (1) ((0 : Nat))) :: (Value.int (3) ((0 : Nat))) :: (Value.ref ((50 : Nat))) :: (Value.bool (Bool.true)) :: (Value.int (276) ((0 : Nat))) :: (Value.ref ((51 : Nat))) :: (Value.none) :: (Value.ref ((52 : Nat))) :: (Value.ref ((53 : Nat))) :: (Value.ref ((54 : Nat))) :: (Value.int (315) ((0 : Nat))) :: (Value.int (12) ((0 : Nat))) :: (Value.str (Str.ofString ("/claim/cut.py")) ((316 : Nat))) :: [])))) (#[])) ::
    ((nat_lit 56), Obj.mk (Value.type ("function")) (@Option.none Nat) (Data.func (FuncData.mk (Str.ofString ("bisect_right")) (Str.ofString ("bisect_right")) f4p (FuncBody.stmts f4b) f4s ((3 : Nat)) (@List.nil (Str × Nat)) (Value.ref ((48 : Nat))) (Value.ref ((49 : Nat))) (Value.none) (Value.str (Str.ofString ("cpy313.bisect")) ((289 : Nat))) (@Option.none Nat) (Value.ref ((55 : Nat))) (Value.none) ((0 : Nat)))) (#[])) ::
    ((nat_lit 57), Obj.mk (Value.type ("tuple")) (@Option.none Nat) (Data.seq (#[Value.type ("Exception")]) ((0 : Nat))) (#[])) ::
    ((nat_lit 64), Obj.mk (Value.type ("tuple")) (@Option.none Nat) (Data.seq (#[]) ((0 : Nat))) (#[])) ::
    ((nat_lit 65), Obj.mk (Value.type ("dict")) (@Option.none Nat) (Data.dict (#[kE P "__module__" (327 : Nat) (Value.str (Str.ofString ("cpy313.ftplib")) ((318 : Nat))), kE P "__firstlineno__" (331 : Nat) (Value.int (33) ((330 : Nat))), kE P "__static_attributes__" (332 : Nat) (Value.ref ((64 : Nat))), kE P "__weakref__" (334 : Nat) (Value.ref ((67 : Nat))), kE P "__doc__" (335 : Nat) (Value.none)]) ((3 : Nat))) (#[])) ::
    ((nat_lit 66), Obj.mk (Value.type ("type")) (@Option.none Nat) (Data.cls (ClassData.mk (Str.ofString ("Error")) ([Value.type ("Exception")]) ([Value.ref ((66 : Nat)), Value.type ("Exception"), Value.type ("BaseException"), Value.type ("object")]) ((65 : Nat)) (Str.ofString ("Error")) (Bool.true) ([]) ([Value.ref ((79 : Nat))]) (Bool.false) (Option.none) (Bool.false))) (#[Option.some (Value.ref ((57 : Nat))), Option.none, Option.some (Value.str (Str.ofString ("Error")) ((320 : Nat))), Option.some (Value.str (Str.ofString ("Error")) ((328 : Nat))), Option.some (Value.builtin ("Exception.__new__")), Option.some (Value.bool (Bool.true))])) ::
    ((nat_lit 67), Obj.mk (Value.type ("getset_descriptor")) (@Option.none Nat) (Data.fields (#[Value.str (Str.ofString ("__weakref__")) ((333 : Nat)), Value.ref ((66 : Nat)), Value.builtin ("ExceptionGroup.__weakref__"), Value.none])) (#[])) ::
    ((nat_lit 70), Obj.mk (Value.type ("tuple")) (@Option.none Nat) (Data.seq (#[Value.ref ((66 : Nat))]) ((0 : Nat))) (#[])) ::
    ((nat_lit 77), Obj.mk (Value.type ("tuple")) (@Option.none Nat) (Data.seq (#[]) ((0 : Nat))) (#[])) ::
    ((nat_lit 78), Obj.mk (Value.type ("dict")) (@Option.none Nat) (Data.dict (#[kE P "__module__" (347 : Nat) (Value.str (Str.ofString ("cpy313.ftplib")) ((318 : Nat))), kE P "__firstlineno__" (351 : Nat) (Value.int (35) ((350 : Nat))), kE P "__static_attributes__" (352 : Nat) (Value.ref ((77 : Nat))), kE P "__doc__" (353 : Nat) (Value.none)]) ((2 : Nat))) (#[])) ::
    ((nat_lit 79), Obj.mk (Value.type ("type")) (@Option.none Nat) (Data.cls (ClassData.mk (Str.ofString ("error_reply")) ([Value.ref ((66 : Nat))]) ([Value.ref ((79 : Nat)), Value.ref ((66 : Nat)), Value.type ("Exception"), Value.type ("BaseException"), Value.type ("object")]) ((78 : Nat)) (Str.ofString ("error_reply")) (Bool.true) ([]) ([]) (Bool.false) (Option.none) (Bool.false))) (#[Option.some (Value.ref ((70 : Nat))), Option.none, Option.some (Value.str (Str.ofString ("error_reply")) ((340 : Nat))), Option.some (Value.str (Str.ofString ("error_reply")) ((348 : Nat))), Option.some (Value.builtin ("Exception.__new__")), Option.some (Value.bool (Bool.true))])) ::
    ((nat_lit 82), Obj.mk (Value.type ("tuple")) (@Option.none Nat) (Data.seq (#[]) ((0 : Nat))) (#[])) ::
    ((nat_lit 84), Obj.mk (Value.type ("tuple")) (@Option.none Nat) (Data.seq (#[Value.str (Str.ofString ("resp")) ((359 : Nat)), Value.str (Str.ofString ("dirname")) ((360 : Nat)), Value.str (Str.ofString ("i")) ((361 : Nat)), Value.str (Str.ofString ("n")) ((362 : Nat)), Value.str (Str.ofString ("c")) ((363 : Nat))]) ((0 : Nat))) (#[])) ::
    ((nat_lit 85), Obj.mk (Value.type ("tuple")) (@Option.none Nat) (Data.seq (#[]) ((0 : Nat))) (#[])) ::
    ((nat_lit 87), Obj.mk (Value.type ("code")) (@Option.none Nat) (Data.fields ((List.toArray ((Value.str (Str.ofString ("parse257")) ((356 : Nat))) :: (Value.str (Str.ofString ("parse257")) ((357 : Nat))) :: (Value.str (Str.ofString ("/claim/cut.py")) ((358 : Nat))) :: (Value.int (37) ((0 : Nat))) :: (Value.int (1) ((0 : Nat))) :: (Value.int (0) ((0 : Nat))) :: (Value.int (0) ((0 : Nat))) :: (Value.int (3) ((0 : Nat))) :: (Value.ref ((82 : Nat))) :: (Value.bool (Bool.true)) :: (Value.int (276) ((0 : Nat))) :: (Value.ref ((83 : Nat))) :: (Value.none) :: (Value.ref ((84 : Nat))) :: (Value.ref ((85 : Nat))) :: (Value.ref ((86 : Nat))) :: (Value.int (364) ((0 : Nat))) :: (Value.int (37) ((0 : Nat))) :: (Value.str (Str.ofString ("/claim/cut.py")) ((365 : Nat))) :: [])))) (#[])) ::
    ((nat_lit 88), Obj.mk (Value.type ("function")) (@Option.none Nat) (Data.func (FuncData.mk (Str.ofString ("parse257")) (Str.ofString ("parse257")) f8p (FuncBody.stmts f8b) f8s ((3 : Nat)) (@List.nil (Str × Nat)) (Value.none) (Value.none) (Value.none) (Value.str (Str.ofString ("cpy313.ftplib")) ((318 : Nat))) (@Option.none Nat) (Value.ref ((87 : Nat))) (Value.none) ((0 : Nat)))) (#[])) ::
    ((nat_lit 92), Obj.mk (Value.type ("tuple")) (@Option.none Nat) (Data.seq ((List.toArray ((Value.int (14) ((0 : Nat))) :: (Value.int (10) ((0 : Nat))) :: (Value.int (4) ((0 : Nat))) :: (Value.int (1) ((0 : Nat))) :: (Value.int (1) ((0 : Nat))) :: (Value.int (22) ((0 : Nat))) :: (Value.int (0) ((0 : Nat))) :: (Value.int (31) ((0 : Nat))) :: (Value.int (16) ((0 : Nat))) :: (Value.int (127) ((0 : Nat))) :: (Value.int (0) ((0 : Nat))) :: (Value.int (13) ((0 : Nat))) :: (Value.int (7) ((0 : Nat))) :: (Value.int (22) ((0 : Nat))) :: (Value.int (0) ((0 : Nat))) :: (Value.int (31) ((0 : Nat))) :: (Value.int (16) ((0 : Nat))) :: (Value.int (127) ((0 : Nat))) :: (Value.int (0) ((0 : Nat))) :: (Value.int (1) ((0 : Nat))) :: []))) ((0 : Nat))) (#[])) ::
    ((nat_lit 93), Obj.mk (Value.type ("re.Pattern")) (@Option.none Nat) (Data.fields (#[Value.str (Str.ofString ("[\\x00-\\x1F\\x7F]")) ((370 : Nat)), Value.int (32) ((393 : Nat)), Value.int (0) ((0 : Nat)), Value.none, Value.none, Value.ref ((92 : Nat)), Value.int (0) ((0 : Nat))])) (#[])) ::
    ((nat_lit 97), Obj.mk (Value.type ("tuple")) (@Option.none Nat) (Data.seq ((List.toArray ((Value.int (14) ((0 : Nat))) :: (Value.int (14) ((0 : Nat))) :: (Value.int (4) ((0 : Nat))) :: (Value.int (1) ((0 : Nat))) :: (Value.int (1) ((0 : Nat))) :: (Value.int (9) ((0 : Nat))) :: (Value.int (4294966783) ((0 : Nat))) :: (Value.int (0) ((0 : Nat))) :: (Value.int (0) ((0 : Nat))) :: (Value.int (2147483648) ((0 : Nat))) :: (Value.int (0) ((0 : Nat))) :: (Value.int (0) ((0 : Nat))) :: (Value.int (0) ((0 : Nat))) :: (Value.int (0) ((0 : Nat))) :: (Value.int (0) ((0 : Nat))) :: (Value.int (13) ((0 : Nat))) :: (Value.int (11) ((0 : Nat))) :: (Value.int (9) ((0 : Nat))) :: (Value.int (4294966783) ((0 : Nat))) :: (Value.int (0) ((0 : Nat))) :: (Value.int (0) ((0 : Nat))) :: (Value.int (2147483648) ((0 : Nat))) :: (Value.int (0) ((0 : Nat))) :: (Value.int (0) ((0 : Nat))) :: (Value.int (0) ((0 : Nat))) :: (Value.int (0) ((0 : Nat))) :: (Value.int (0) ((0 : Nat))) :: (Value.int (1) ((0 : Nat))) :: []))) ((0 : Nat))) (#[])) ::
    ((nat_lit 98), Obj.mk (Value.type ("re.Pattern")) (@Option.none Nat) (Data.fields (#[Value.str (Str.ofString ("[\\x00-\\x08\\x0A-\\x1F\\x7F]")) ((396 : Nat)), Value.int (32) ((427 : Nat)), Value.int (0) ((0 : Nat)), Value.none, Value.none, Value.ref ((97 : Nat)), Value.int (0) ((0 : Nat))])) (#[])) ::
    ((nat_lit 106), Obj.mk (Value.type ("tuple")) (@Option.none Nat) (Data.seq (#[Value.none]) ((0 : Nat))) (#[])) ::
    ((nat_lit 107), Obj.mk (Value.type ("tuple")) (@Option.none Nat) (Data.seq (#[]) ((0 : Nat))) (#[])) ::
    ((nat_lit 109), Obj.mk (Value.type ("tuple")) (@Option.none Nat) (Data.seq (#[Value.str (Str.ofString ("self")) ((444 : Nat)), Value.str (Str.ofString ("headers")) ((445 : Nat)), Value.str (Str.ofString ("k")) ((446 : Nat)), Value.str (Str.ofString ("v")) ((447 : Nat))]) ((0 : Nat))) (#[])) ::
    ((nat_lit 110), Obj.mk (Value.type ("tuple")) (@Option.none Nat) (Data.seq (#[]) ((0 : Nat))) (#[])) ::
    ((nat_lit 112), Obj.mk (Value.type ("code")) (@Option.none Nat) (Data.fields ((List.toArray ((Value.str (Str.ofString ("__init__")) ((441 : Nat))) :: (Value.str (Str.ofString ("Headers.__init__")) ((442 : Nat))) :: (Value.str (Str.ofString ("/claim/cut.py")) ((443 : Nat))) :: (Value.int (59) ((0 : Nat))) :: (Value.int (2) ((0 : Nat))) :: (Value.int (0) ((0 : Nat))) :: (Value.int (0) ((0 : Nat))) :: (Value.int (3) ((0 : Nat))) :: (Value.ref ((107 : Nat))) :: (Value.bool (Bool.true)) :: (Value.int (276) ((0 : Nat))) :: (Value.ref ((108 : Nat))) :: (Value.none) :: (Value.ref ((109 : Nat))) :: (Value.ref ((110 : Nat))) :: (Value.ref ((111 : Nat))) :: (Value.int (448) ((0 : Nat))) :: (Value.int (59) ((0 : Nat))) :: (Value.str (Str.ofString ("/claim/cut.py")) ((449 : Nat))) :: [])))) (#[])) ::
    ((nat_lit 113), Obj.mk (Value.type ("function")) (@Option.none Nat) (Data.func (FuncData.mk (Str.ofString ("__init__")) (Str.ofString ("Headers.__init__")) m12x0p (FuncBody.stmts m12x0b) m12x0s ((3 : Nat)) (@List.nil (Str × Nat)) (Value.ref ((106 : Nat))) (Value.none) (Value.none) (Value.str (Str.ofString ("cpy313.wsgiref.headers")) ((367 : Nat))) (@Option.none Nat) (Value.ref ((112 : Nat))) (Value.none) ((0 : Nat)))) (#[])) ::
    ((nat_lit 114), Obj.mk (Value.type ("tuple")) (@Option.none Nat) (Data.seq (#[]) ((0 : Nat))) (#[])) ::
    ((nat_lit 116), Obj.mk (Value.type ("tuple")) (@Option.none Nat) (Data.seq (#[Value.str (Str.ofString ("self")) ((454 : Nat)), Value.str (Str.ofString ("value")) ((455 : Nat)), Value.str (Str.ofString ("name")) ((456 : Nat)), Value.str (Str.ofString ("regex")) ((457 : Nat))]) ((0 : Nat))) (#[])) ::
    ((nat_lit 117), Obj.mk (Value.type ("tuple")) (@Option.none Nat) (Data.seq (#[]) ((0 : Nat))) (#[])) ::
    ((nat_lit 119), Obj.mk (Value.type ("code")) (@Option.none Nat) (Data.fields ((List.toArray ((Value.str (Str.ofString ("_convert_string_type")) ((451 : Nat))) :: (Value.str (Str.ofString ("Headers._convert_string_type")) ((452 : Nat))) :: (Value.str (Str.ofString ("/claim/cut.py")) ((453 : Nat))) :: (Value.int (69) ((0 : Nat))) :: (Value.int (2) ((0 : Nat))) :: (Value.int (0) ((0 : Nat))) :: (Value.int (1) ((0 : Nat))) :: (Value.int (3) ((0 : Nat))) :: (Value.ref ((114 : Nat))) :: (Value.bool (Bool.true)) :: (Value.int (276) ((0 : Nat))) :: (Value.ref ((115 : Nat))) :: (Value.none) :: (Value.ref ((116 : Nat))) :: (Value.ref ((117 : Nat))) :: (Value.ref ((118 : Nat))) :: (Value.int (458) ((0 : Nat))) :: (Value.int (69) ((0 : Nat))) :: (Value.str (Str.ofString ("/claim/cut.py")) ((459 : Nat))) :: [])))) (#[])) ::
    ((nat_lit 120), Obj.mk (Value.type ("function")) (@Option.none Nat) (Data.func (FuncData.mk (Str.ofString ("_convert_string_type")) (Str.ofString ("Headers._convert_string_type")) m12x1p (FuncBody.stmts m12x1b) m12x1s ((3 : Nat)) (@List.nil (Str × Nat)) (Value.none) (Value.none) (Value.none) (Value.str (Str.ofString ("cpy313.wsgiref.headers")) ((367 : Nat))) (@Option.none Nat) (Value.ref ((119 : Nat))) (Value.none) ((0 : Nat)))) (#[])) ::
    ((nat_lit 121), Obj.mk (Value.type ("tuple")) (@Option.none Nat) (Data.seq (#[]) ((0 : Nat))) (#[])) ::
    ((nat_lit 123), Obj.mk (Value.type ("tuple")) (@Option.none Nat) (Data.seq (#[Value.str (Str.ofString ("self")) ((464 : Nat))]) ((0 : Nat))) (#[])) ::
    ((nat_lit 124), Obj.mk (Value.type ("tuple")) (@Option.none Nat) (Data.seq (#[]) ((0 : Nat))) (#[])) ::
    ((nat_lit 126), Obj.mk (Value.type ("code")) (@Option.none Nat) (Data.fields ((List.toArray ((Value.str (Str.ofString ("__len__")) ((461 : Nat))) :: (Value.str (Str.ofString ("Headers.__len__")) ((462 : Nat))) :: (Value.str (Str.ofString ("/claim/cut.py")) ((463 : Nat))) :: (Value.int (77) ((0 : Nat))) :: (Value.int (1) ((0 : Nat))) :: (Value.int (0) ((0 : Nat))) :: (Value.int (0) ((0 : Nat))) :: (Value.int (3) ((0 : Nat))) :: (Value.ref ((121 : Nat))) :: (Value.bool (Bool.true)) :: (Value.int (276) ((0 : Nat))) :: (Value.ref ((122 : Nat))) :: (Value.none) :: (Value.ref ((123 : Nat))) :: (Value.ref ((124 : Nat))) :: (Value.ref ((125 : Nat))) :: (Value.int (465) ((0 : Nat))) :: (Value.int (77) ((0 : Nat))) :: (Value.str (Str.ofString ("/claim/cut.py")) ((466 : Nat))) :: [])))) (#[])) ::
    ((nat_lit 127), Obj.mk (Value.type ("function")) (@Option.none Nat) (Data.func (FuncData.mk (Str.ofString ("__len__")) (Str.ofString ("Headers.__len__")) m12x2p (FuncBody.stmts m12x2b) m12x2s ((3 : Nat)) (@List.nil (Str × Nat)) (Value.none) (Value.none) (Value.none) (Value.str (Str.ofString ("cpy313.wsgiref.headers")) ((367 : Nat))) (@Option.none Nat) (Value.ref ((126 : Nat))) (Value.none) ((0 : Nat)))) (#[])) ::
    ((nat_lit 128), Obj.mk (Value.type ("tuple")) (@Option.none Nat) (Data.seq (#[]) ((0 : Nat))) (#[])) ::
    ((nat_lit 130), Obj.mk (Value.type ("tuple")) (@Option.none Nat) (Data.seq (#[Value.str (Str.ofString ("self")) ((471 : Nat)), Value.str (Str.ofString ("name")) ((472 : Nat)), Value.str (Str.ofString ("val")) ((473 : Nat))]) ((0 : Nat))) (#[])) ::
    ((nat_lit 131), Obj.mk (Value.type ("tuple")) (@Option.none Nat) (Data.seq (#[]) ((0 : Nat))) (#[])) ::
    ((nat_lit 133), Obj.mk (Value.type ("code")) (@Option.none Nat) (Data.fields ((List.toArray ((Value.str (Str.ofString ("__setitem__")) ((468 : Nat))) :: (Value.str (Str.ofString ("Headers.__setitem__")) ((469 : Nat))) :: (Value.str (Str.ofString ("/claim/cut.py")) ((470 : Nat))) :: (Value.int (80) ((0 : Nat))) :: (Value.int (3) ((0 : Nat))) :: (Value.int (0) ((0 : Nat))) :: (Value.int (0) ((0 : Nat))) :: (Value.int (3) ((0 : Nat))) :: (Value.ref ((128 : Nat))) :: (Value.bool (Bool.true)) :: (Value.int (276) ((0 : Nat))) :: (Value.ref ((129 : Nat))) :: (Value.none) :: (Value.ref ((130 : Nat))) :: (Value.ref ((131 : Nat))) :: (Value.ref ((132 : Nat))) :: (Value.int (474) ((0 : Nat))) :: (Value.int (80) ((0 : Nat))) :: (Value.str (Str.ofString ("/claim/cut.py")) ((475 : Nat))) :: [])))) (#[])) ::
    ((nat_lit 134), Obj.mk (Value.type ("function")) (@Option.none Nat) (Data.func (FuncData.mk (Str.ofString ("__setitem__")) (Str.ofString ("Headers.__setitem__")) m12x3p (FuncBody.stmts m12x3b) m12x3s ((3 : Nat)) (@List.nil (Str × Nat)) (Value.none) (Value.none) (Value.none) (Value.str (Str.ofString ("cpy313.wsgiref.headers")) ((367 : Nat))) (@Option.none Nat) (Value.ref ((133 : Nat))) (Value.none) ((0 : Nat)))) (#[])) ::
    ((nat_lit 135), Obj.mk (Value.type ("tuple")) (@Option.none Nat) (Data.seq (#[]) ((0 : Nat))) (#[])) ::
    ((nat_lit 138), Obj.mk (Value.type ("code")) (@Option.none Nat) (Data.fields ((List.toArray ((Value.str (Str.ofString ("__delitem__")) ((477 : Nat))) :: (Value.str (Str.ofString ("Headers.__delitem__")) ((478 : Nat))) :: (Value.str (Str.ofString ("/claim/cut.py")) ((479 : Nat))) :: (Value.int (84) ((0 : Nat))) :: (Value.int (2) ((0 : Nat))) :: (Value.int (0) ((0 : Nat))) :: (Value.int (0) ((0 : Nat))) :: (Value.int (3) ((0 : Nat))) :: (Value.ref ((135 : Nat))) :: (Value.bool (Bool.true)) :: (Value.int (276) ((0 : Nat))) :: (Value.ref ((136 : Nat))) :: (Value.none) :: (Value.none) :: (Value.none) :: (Value.ref ((137 : Nat))) :: (Value.int (480) ((0 : Nat))) :: (Value.int (84) ((0 : Nat))) :: (Value.str (Str.ofString ("/claim/cut.py")) ((481 : Nat))) :: [])))) (#[])) ::
    ((nat_lit 139), Obj.mk (Value.type ("function")) (@Option.none Nat) (Data.func (FuncData.mk (Str.ofString ("__delitem__")) (Str.ofString ("Headers.__delitem__")) m12x4p (FuncBody.stmts m12x4b) m12x4s ((3 : Nat)) (@List.nil (Str × Nat)) (Value.none) (Value.none) (Value.none) (Value.str (Str.ofString ("cpy313.wsgiref.headers")) ((367 : Nat))) (@Option.none Nat) (Value.ref ((138 : Nat))) (Value.none) ((0 : Nat)))) (#[])) ::
    ((nat_lit 140), Obj.mk (Value.type ("tuple")) (@Option.none Nat) (Data.seq (#[]) ((0 : Nat))) (#[])) ::
    ((nat_lit 142), Obj.mk (Value.type ("tuple")) (@Option.none Nat) (Data.seq (#[Value.str (Str.ofString ("self")) ((486 : Nat)), Value.str (Str.ofString ("name")) ((487 : Nat))]) ((0 : Nat))) (#[])) ::
    ((nat_lit 143), Obj.mk (Value.type ("tuple")) (@Option.none Nat) (Data.seq (#[]) ((0 : Nat))) (#[])) ::
    ((nat_lit 145), Obj.mk (Value.type ("code")) (@Option.none Nat) (Data.fields ((List.toArray ((Value.str (Str.ofString ("__getitem__")) ((483 : Nat))) :: (Value.str (Str.ofString ("Headers.__getitem__")) ((484 : Nat))) :: (Value.str (Str.ofString ("/claim/cut.py")) ((485 : Nat))) :: (Value.int (88) ((0 : Nat))) :: (Value.int (2) ((0 : Nat))) :: (Value.int (0) ((0 : Nat))) :: (Value.int (0) ((0 : Nat))) :: (Value.int (3) ((0 : Nat))) :: (Value.ref ((140 : Nat))) :: (Value.bool (Bool.true)) :: (Value.int (276) ((0 : Nat))) :: (Value.ref ((141 : Nat))) :: (Value.none) :: (Value.ref ((142 : Nat))) :: (Value.ref ((143 : Nat))) :: (Value.ref ((144 : Nat))) :: (Value.int (488) ((0 : Nat))) :: (Value.int (88) ((0 : Nat))) :: (Value.str (Str.ofString ("/claim/cut.py")) ((489 : Nat))) :: [])))) (#[])) ::
    ((nat_lit 146), Obj.mk (Value.type ("function")) (@Option.none Nat) (Data.func (FuncData.mk (Str.ofString ("__getitem__")) (Str.ofString ("Headers.__getitem__")) m12x5p (FuncBody.stmts m12x5b) m12x5s ((3 : Nat)) (@List.nil (Str × Nat)) (Value.none) (Value.none) (Value.none) (Value.str (Str.ofString ("cpy313.wsgiref.headers")) ((367 : Nat))) (@Option.none Nat) (Value.ref ((145 : Nat))) (Value.none) ((0 : Nat)))) (#[])) ::
    ((nat_lit 147), Obj.mk (Value.type ("tuple")) (@Option.none Nat) (Data.seq (#[]) ((0 : Nat))) (#[])) ::
    ((nat_lit 149), Obj.mk (Value.type ("tuple")) (@Option.none Nat) (Data.seq (#[Value.str (Str.ofString ("self")) ((494 : Nat)), Value.str (Str.ofString ("name")) ((495 : Nat))]) ((0 : Nat))) (#[])) ::
    ((nat_lit 150), Obj.mk (Value.type ("tuple")) (@Option.none Nat) (Data.seq (#[]) ((0 : Nat))) (#[])) ::
    ((nat_lit 152), Obj.mk (Value.type ("code")) (@Option.none Nat) (Data.fields ((List.toArray ((Value.str (Str.ofString ("__contains__")) ((491 : Nat))) :: (Value.str (Str.ofString ("Headers.__contains__")) ((492 : Nat))) :: (Value.str (Str.ofString ("/claim/cut.py")) ((493 : Nat))) :: (Value.int (91) ((0 : Nat))) :: (Value.int (2) ((0 : Nat))) :: (Value.int (0) ((0 : Nat))) :: (Value.int (0) ((0 : Nat))) :: (Value.int (3) ((0 : Nat))) :: (Value.ref ((147 : Nat))) :: (Value.bool (Bool.true)) :: (Value.int (276) ((0 : Nat))) :: (Value.ref ((148 : Nat))) :: (Value.none) :: (Value.ref ((149 : Nat))) :: (Value.ref ((150 : Nat))) :: (Value.ref ((151 : Nat))) :: (Value.int (496) ((0 : Nat))) :: (Value.int (91) ((0 : Nat))) :: (Value.str (Str.ofString ("/claim/cut.py")) ((497 : Nat))) :: [])))) (#[])) ::
    ((nat_lit 153), Obj.mk (Value.type ("function")) (@Option.none Nat) (Data.func (FuncData.mk (Str.ofString ("__contains__")) (Str.ofString ("Headers.__contains__")) m12x6p (FuncBody.stmts m12x6b) m12x6s ((3 : Nat)) (@List.nil (Str × Nat)) (Value.none) (Value.none) (Value.none) (Value.str (Str.ofString ("cpy313.wsgiref.headers")) ((367 : Nat))) (@Option.none Nat) (Value.ref ((152 : Nat))) (Value.none) ((0 : Nat)))) (#[])) ::
    ((nat_lit 154), Obj.mk (Value.type ("tuple")) (@Option.none Nat) (Data.seq (#[]) ((0 : Nat))) (#[])) ::
    ((nat_lit 156), Obj.mk (Value.type ("tuple")) (@Option.none Nat) (Data.seq (#[Value.str (Str.ofString ("self")) ((502 : Nat)), Value.str (Str.ofString ("name")) ((503 : Nat))]) ((0 : Nat))) (#[])) ::
    ((nat_lit 157), Obj.mk (Value.type ("tuple")) (@Option.none Nat) (Data.seq (#[]) ((0 : Nat))) (#[])) ::
    ((nat_lit 159), Obj.mk (Value.type ("code")) (@Option.none Nat) (Data.fields ((List.toArray ((Value.str (Str.ofString ("get_all")) ((499 : Nat))) :: (Value.str (Str.ofString ("Headers.get_all")) ((500 : Nat))) :: (Value.str (Str.ofString ("/claim/cut.py")) ((501 : Nat))) :: (Value.int (94) ((0 : Nat))) :: (Value.int (2) ((0 : Nat))) :: (Value.int (0) ((0 : Nat))) :: (Value.int (0) ((0 : Nat))) :: (Value.int (3) ((0 : Nat))) :: (Value.ref ((154 : Nat))) :: (Value.bool (Bool.true)) :: (Value.int (276) ((0 : Nat))) :: (Value.ref ((155 : Nat))) :: (Value.none) :: (Value.ref ((156 : Nat))) :: (Value.ref ((157 : Nat))) :: (Value.ref ((158 : Nat))) :: (Value.int (504) ((0 : Nat))) :: (Value.int (94) ((0 : Nat))) :: (Value.str (Str.ofString ("/claim/cut.py")) ((505 : Nat))) :: [])))) (#[])) ::
    ((nat_lit 160), Obj.mk (Value.type ("function")) (@Option.none Nat) (Data.func (FuncData.mk (Str.ofString ("get_all")) (Str.ofString ("Headers.get_all")) m12x7p (FuncBody.stmts m12x7b) m12x7s ((3 : Nat)) (@List.nil (Str × Nat)) (Value.none) (Value.none) (Value.none) (Value.str (Str.ofString ("cpy313.wsgiref.headers")) ((367 : Nat))) (@Option.none Nat) (Value.ref ((159 : Nat))) (Value.none) ((0 : Nat)))) (#[])) ::
    ((nat_lit 161), Obj.mk (Value.type ("tuple")) (@Option.none Nat) (Data.seq (#[Value.none]) ((0 : Nat))) (#[])) ::
    ((nat_lit 162), Obj.mk (Value.type ("tuple")) (@Option.none Nat) (Data.seq (#[]) ((0 : Nat))) (#[])) ::
    ((nat_lit 164), Obj.mk (Value.type ("tuple")) (@Option.none Nat) (Data.seq (#[Value.str (Str.ofString ("self")) ((510 : Nat)), Value.str (Str.ofString ("name")) ((511 : Nat)), Value.str (Str.ofString ("default")) ((512 : Nat)), Value.str (Str.ofString ("k")) ((513 : Nat)), Value.str (Str.ofString ("v")) ((514 : Nat))]) ((0 : Nat))) (#[])) ::
    ((nat_lit 165), Obj.mk (Value.type ("tuple")) (@Option.none Nat) (Data.seq (#[]) ((0 : Nat))) (#[])) ::
    ((nat_lit 167), Obj.mk (Value.type ("code")) (@Option.none Nat) (Data.fields ((List.toArray ((Value.str (Str.ofString ("get")) ((507 : Nat))) :: (Value.str (Str.ofString ("Headers.get")) ((508 : Nat))) :: (Value.str (Str.ofString ("/claim/cut.py")) ((509 : Nat))) :: (Value.int (97) ((0 : Nat))) :: (Value.int (3) ((0 : Nat))) :: (Value.int (0) ((0 : Nat))) :: (Value.int (0) ((0 : Nat))) :: (Value.int (3) ((0 : Nat))) :: (Value.ref ((162 : Nat))) :: (Value.bool (Bool.true)) :: (Value.int (276) ((0 : Nat))) :: (Value.ref ((163 : Nat))) :: (Value.none) :: (Value.ref ((164 : Nat))) :: (Value.ref ((165 : Nat))) :: (Value.ref ((166 : Nat))) :: (Value.int (515) ((0 : Nat))) :: (Value.int (97) ((0 : Nat))) :: (Value.str (Str.ofString ("/claim/cut.py")) ((516 : Nat))) :: [])))) (#[])) ::
    ((nat_lit 168), Obj.mk (Value.type ("function")) (@Option.none Nat) (Data.func (FuncData.mk (Str.ofString ("get")) (Str.ofString ("Headers.get")) m12x8p (FuncBody.stmts m12x8b) m12x8s ((3 : Nat)) (@List.nil (Str × Nat)) (Value.ref ((161 : Nat))) (Value.none) (Value.none) (Value.str (Str.ofString ("cpy313.wsgiref.headers")) ((367 : Nat))) (@Option.none Nat) (Value.ref ((167 : Nat))) (Value.none) ((0 : Nat)))) (#[])) ::
    ((nat_lit 169), Obj.mk (Value.type ("tuple")) (@Option.none Nat) (Data.seq (#[]) ((0 : Nat))) (#[])) ::
    ((nat_lit 172), Obj.mk (Value.type ("code")) (@Option.none Nat) (Data.fields ((List.toArray ((Value.str (Str.ofString ("keys")) ((518 : Nat))) :: (Value.str (Str.ofString ("Headers.keys")) ((519 : Nat))) :: (Value.str (Str.ofString ("/claim/cut.py")) ((520 : Nat))) :: (Value.int (104) ((0 : Nat))) :: (Value.int (1) ((0 : Nat))) :: (Value.int (0) ((0 : Nat))) :: (Value.int (0) ((0 : Nat))) :: (Value.int (3) ((0 : Nat))) :: (Value.ref ((169 : Nat))) :: (Value.bool (Bool.true)) :: (Value.int (276) ((0 : Nat))) :: (Value.ref ((170 : Nat))) :: (Value.none) :: (Value.none) :: (Value.none) :: (Value.ref ((171 : Nat))) :: (Value.int (521) ((0 : Nat))) :: (Value.int (104) ((0 : Nat))) :: (Value.str (Str.ofString ("/claim/cut.py")) ((522 : Nat))) :: [])))) (#[])) ::
    ((nat_lit 173), Obj.mk (Value.type ("function")) (@Option.none Nat) (Data.func (FuncData.mk (Str.ofString ("keys")) (Str.ofString ("Headers.keys")) m12x9p (FuncBody.stmts m12x9b) m12x9s ((3 : Nat)) (@List.nil (Str × Nat)) (Value.none) (Value.none) (Value.none) (Value.str (Str.ofString ("cpy313.wsgiref.headers")) ((367 : Nat))) (@Option.none Nat) (Value.ref ((172 : Nat))) (Value.none) ((0 : Nat)))) (#[])) ::
    ((nat_lit 174), Obj.mk (Value.type ("tuple")) (@Option.none Nat) (Data.seq (#[]) ((0 : Nat))) (#[])) ::
    ((nat_lit 177), Obj.mk (Value.type ("code")) (@Option.none Nat) (Data.fields ((List.toArray ((Value.str (Str.ofString ("values")) ((524 : Nat))) :: (Value.str (Str.ofString ("Headers.values")) ((525 : Nat))) :: (Value.str (Str.ofString ("/claim/cut.py")) ((526 : Nat))) :: (Value.int (107) ((0 : Nat))) :: (Value.int (1) ((0 : Nat))) :: (Value.int (0) ((0 : Nat))) :: (Value.int (0) ((0 : Nat))) :: (Value.int (3) ((0 : Nat))) :: (Value.ref ((174 : Nat))) :: (Value.bool (Bool.true)) :: (Value.int (276) ((0 : Nat))) :: (Value.ref ((175 : Nat))) :: (Value.none) :: (Value.none) :: (Value.none) :: (Value.ref ((176 : Nat))) :: (Value.int (527) ((0 : Nat))) :: (Value.int (107) ((0 : Nat))) :: (Value.str (Str.ofString ("/claim/cut.py")) ((528 : Nat))) :: [])))) (#[])) ::
    ((nat_lit 178), Obj.mk (Value.type ("function")) (@Option.none Nat) (Data.func (FuncData.mk (Str.ofString ("values")) (Str.ofString ("Headers.values")) m12x10p (FuncBody.stmts m12x10b) m12x10s ((3 : Nat)) (@List.nil (Str × Nat)) (Value.none) (Value.none) (Value.none) (Value.str (Str.ofString ("cpy313.wsgiref.headers")) ((367 : Nat))) (@Option.none Nat) (Value.ref ((177 : Nat))) (Value.none) ((0 : Nat)))) (#[])) ::
    ((nat_lit 179), Obj.mk (Value.type ("tuple")) (@Option.none Nat) (Data.seq (#[]) ((0 : Nat))) (#[])) ::
    ((nat_lit 181), Obj.mk (Value.type ("tuple")) (@Option.none Nat) (Data.seq (#[Value.str (Str.ofString ("self")) ((533 : Nat))]) ((0 : Nat))) (#[])) ::
    ((nat_lit 182), Obj.mk (Value.type ("tuple")) (@Option.none Nat) (Data.seq (#[]) ((0 : Nat))) (#[])) ::
    ((nat_lit 184), Obj.mk (Value.type ("code")) (@Option.none Nat) (Data.fields ((List.toArray ((Value.str (Str.ofString ("items")) ((530 : Nat))) :: (Value.str (Str.ofString ("Headers.items")) ((531 : Nat))) :: (Value.str (Str.ofString ("/claim/cut.py")) ((532 : Nat))) :: (Value.int (110) ((0 : Nat))) :: (Value.int (1) ((0 : Nat))) :: (Value.int (0) ((0 : Nat))) :: (Value.int (0) ((0 : Nat))) :: (Value.int (3) ((0 : Nat))) :: (Value.ref ((179 : Nat))) :: (Value.bool (Bool.true)) :: (Value.int (276) ((0 : Nat))) :: (Value.ref ((180 : Nat))) :: (Value.none) :: (Value.ref ((181 : Nat))) :: (Value.ref ((182 : Nat))) :: (Value.ref ((183 : Nat))) :: (Value.int (534) ((0 : Nat))) :: (Value.int (110) ((0 : Nat))) :: (Value.str (Str.ofString ("/claim/cut.py")) ((535 : Nat))) :: [])))) (#[])) ::
    ((nat_lit 185), Obj.mk (Value.type ("function")) (@Option.none Nat) (Data.func (FuncData.mk (Str.ofString ("items")) (Str.ofString ("Headers.items")) m12x11p (FuncBody.stmts m12x11b) m12x11s ((3 : Nat)) (@List.nil (Str × Nat)) (Value.none) (Value.none) (Value.none) (Value.str (Str.ofString ("cpy313.wsgiref.headers")) ((367 : Nat))) (@Option.none Nat) (Value.ref ((184 : Nat))) (Value.none) ((0 : Nat)))) (#[])) ::
    ((nat_lit 186), Obj.mk (Value.type ("tuple")) (@Option.none Nat) (Data.seq (#[]) ((0 : Nat))) (#[])) ::
    ((nat_lit 188), Obj.mk (Value.type ("tuple")) (@Option.none Nat) (Data.seq (#[Value.str (Str.ofString ("self")) ((540 : Nat))]) ((0 : Nat))) (#[])) ::
    ((nat_lit 189), Obj.mk (Value.type ("tuple")) (@Option.none Nat) (Data.seq (#[]) ((0 : Nat))) (#[])) ::
    ((nat_lit 191), Obj.mk (Value.type ("code")) (@Option.none Nat) (Data.fields ((List.toArray ((Value.str (Str.ofString ("__repr__")) ((537 : Nat))) :: (Value.str (Str.ofString ("Headers.__repr__")) ((538 : Nat))) :: (Value.str (Str.ofString ("/claim/cut.py")) ((539 : Nat))) :: (Value.int (113) ((0 : Nat))) :: (Value.int (1) ((0 : Nat))) :: (Value.int (0) ((0 : Nat))) :: (Value.int (0) ((0 : Nat))) :: (Value.int (3) ((0 : Nat))) :: (Value.ref ((186 : Nat))) :: (Value.bool (Bool.true)) :: (Value.int (276) ((0 : Nat))) :: (Value.ref ((187 : Nat))) :: (Value.none) :: (Value.ref ((188 : Nat))) :: (Value.ref ((189 : Nat))) :: (Value.ref ((190 : Nat))) :: (Value.int (541) ((0 : Nat))) :: (Value.int (113) ((0 : Nat))) :: (Value.str (Str.ofString ("/claim/cut.py")) ((542 : Nat))) :: [])))) (#[])) ::
    ((nat_lit 192), Obj.mk (Value.type ("function")) (@Option.none Nat) (Data.func (FuncData.mk (Str.ofString ("__repr__")) (Str.ofString ("Headers.__repr__")) m12x12p (FuncBody.stmts m12x12b) m12x12s ((3 : Nat)) (@List.nil (Str × Nat)) (Value.none) (Value.none) (Value.none) (Value.str (Str.ofString ("cpy313.wsgiref.headers")) ((367 : Nat))) (@Option.none Nat) (Value.ref ((191 : Nat))) (Value.none) ((0 : Nat)))) (#[])) ::
    ((nat_lit 193), Obj.mk (Value.type ("tuple")) (@Option.none Nat) (Data.seq (#[]) ((0 : Nat))) (#[])) ::
    ((nat_lit 196), Obj.mk (Value.type ("code")) (@Option.none Nat) (Data.fields ((List.toArray ((Value.str (Str.ofString ("__str__")) ((544 : Nat))) :: (Value.str (Str.ofString ("Headers.__str__")) ((545 : Nat))) :: (Value.str (Str.ofString ("/claim/cut.py")) ((546 : Nat))) :: (Value.int (116) ((0 : Nat))) :: (Value.int (1) ((0 : Nat))) :: (Value.int (0) ((0 : Nat))) :: (Value.int (0) ((0 : Nat))) :: (Value.int (3) ((0 : Nat))) :: (Value.ref ((193 : Nat))) :: (Value.bool (Bool.true)) :: (Value.int (276) ((0 : Nat))) :: (Value.ref ((194 : Nat))) :: (Value.none) :: (Value.none) :: (Value.none) :: (Value.ref ((195 : Nat))) :: (Value.int (547) ((0 : Nat))) :: (Value.int (116) ((0 : Nat))) :: (Value.str (Str.ofString ("/claim/cut.py")) ((548 : Nat))) :: [])))) (#[])) ::
    ((nat_lit 197), Obj.mk (Value.type ("function")) (@Option.none Nat) (Data.func (FuncData.mk (Str.ofString ("__str__")) (Str.ofString ("Headers.__str__")) m12x13p (FuncBody.stmts m12x13b) m12x13s ((3 : Nat)) (@List.nil (Str × Nat)) (Value.none) (Value.none) (Value.none) (Value.str (Str.ofString ("cpy313.wsgiref.headers")) ((367 : Nat))) (@Option.none Nat) (Value.ref ((196 : Nat))) (Value.none) ((0 : Nat)))) (#[])) ::
    ((nat_lit 198), Obj.mk (Value.type ("tuple")) (@Option.none Nat) (Data.seq (#[]) ((0 : Nat))) (#[])) ::
    ((nat_lit 200), Obj.mk (Value.type ("tuple")) (@Option.none Nat) (Data.seq (#[Value.str (Str.ofString ("self")) ((553 : Nat))]) ((0 : Nat))) (#[])) ::
    ((nat_lit 201), Obj.mk (Value.type ("tuple")) (@Option.none Nat) (Data.seq (#[]) ((0 : Nat))) (#[])) ::
    ((nat_lit 203), Obj.mk (Value.type ("code")) (@Option.none Nat) (Data.fields ((List.toArray ((Value.str (Str.ofString ("__bytes__")) ((550 : Nat))) :: (Value.str (Str.ofString ("Headers.__bytes__")) ((551 : Nat))) :: (Value.str (Str.ofString ("/claim/cut.py")) ((552 : Nat))) :: (Value.int (119) ((0 : Nat))) :: (Value.int (1) ((0 : Nat))) :: (Value.int (0) ((0 : Nat))) :: (Value.int (0) ((0 : Nat))) :: (Value.int (3) ((0 : Nat))) :: (Value.ref ((198 : Nat))) :: (Value.bool (Bool.true)) :: (Value.int (276) ((0 : Nat))) :: (Value.ref ((199 : Nat))) :: (Value.none) :: (Value.ref ((200 : Nat))) :: (Value.ref ((201 : Nat))) :: (Value.ref ((202 : Nat))) :: (Value.int (554) ((0 : Nat))) :: (Value.int (119) ((0 : Nat))) :: (Value.str (Str.ofString ("/claim/cut.py")) ((555 : Nat))) :: [])))) (#[])) ::
    ((nat_lit 204), Obj.mk (Value.type ("function")) (@Option.none Nat) (Data.func (FuncData.mk (Str.ofString ("__bytes__")) (Str.ofString ("Headers.__bytes__")) m12x14p (FuncBody.stmts m12x14b) m12x14s ((3 : Nat)) (@List.nil (Str × Nat)) (Value.none) (Value.none) (Value.none) (Value.str (Str.ofString ("cpy313.wsgiref.headers")) ((367 : Nat))) (@Option.none Nat) (Value.ref ((203 : Nat))) (Value.none) ((0 : Nat)))) (#[])) ::
    ((nat_lit 205), Obj.mk (Value.type ("tuple")) (@Option.none Nat) (Data.seq (#[]) ((0 : Nat))) (#[])) ::
    ((nat_lit 207), Obj.mk (Value.type ("tuple")) (@Option.none Nat) (Data.seq (#[Value.str (Str.ofString ("self")) ((560 : Nat)), Value.str (Str.ofString ("name")) ((561 : Nat)), Value.str (Str.ofString ("value")) ((562 : Nat))]) ((0 : Nat))) (#[])) ::
    ((nat_lit 208), Obj.mk (Value.type ("tuple")) (@Option.none Nat) (Data.seq (#[]) ((0 : Nat))) (#[])) ::
    ((nat_lit 210), Obj.mk (Value.type ("code")) (@Option.none Nat) (Data.fields ((List.toArray ((Value.str (Str.ofString ("setdefault")) ((557 : Nat))) :: (Value.str (Str.ofString ("Headers.setdefault")) ((558 : Nat))) :: (Value.str (Str.ofString ("/claim/cut.py")) ((559 : Nat))) :: (Value.int (122) ((0 : Nat))) :: (Value.int (3) ((0 : Nat))) :: (Value.int (0) ((0 : Nat))) :: (Value.int (0) ((0 : Nat))) :: (Value.int (3) ((0 : Nat))) :: (Value.ref ((205 : Nat))) :: (Value.bool (Bool.true)) :: (Value.int (276) ((0 : Nat))) :: (Value.ref ((206 : Nat))) :: (Value.none) :: (Value.ref ((207 : Nat))) :: (Value.ref ((208 : Nat))) :: (Value.ref ((209 : Nat))) :: (Value.int (563) ((0 : Nat))) :: (Value.int (122) ((0 : Nat))) :: (Value.str (Str.ofString ("/claim/cut.py")) ((564 : Nat))) :: [])))) (#[])) ::
    ((nat_lit 211), Obj.mk (Value.type ("function")) (@Option.none Nat) (Data.func (FuncData.mk (Str.ofString ("setdefault")) (Str.ofString ("Headers.setdefault")) m12x15p (FuncBody.stmts m12x15b) m12x15s ((3 : Nat)) (@List.nil (Str × Nat)) (Value.none) (Value.none) (Value.none) (Value.str (Str.ofString ("cpy313.wsgiref.headers")) ((367 : Nat))) (@Option.none Nat) (Value.ref ((210 : Nat))) (Value.none) ((0 : Nat)))) (#[])) ::
    ((nat_lit 212), Obj.mk (Value.type ("tuple")) (@Option.none Nat) (Data.seq (#[]) ((0 : Nat))) (#[])) ::
    ((nat_lit 214), Obj.mk (Value.type ("tuple")) (@Option.none Nat) (Data.seq (#[Value.str (Str.ofString ("self")) ((569 : Nat)), Value.str (Str.ofString ("_name")) ((570 : Nat)), Value.str (Str.ofString ("_value")) ((571 : Nat)), Value.str (Str.ofString ("_params")) ((572 : Nat))]) ((0 : Nat))) (#[])) ::
    ((nat_lit 215), Obj.mk (Value.type ("tuple")) (@Option.none Nat) (Data.seq (#[]) ((0 : Nat))) (#[])) ::
    ((nat_lit 217), Obj.mk (Value.type ("code")) (@Option.none Nat) (Data.fields ((List.toArray ((Value.str (Str.ofString ("add_header")) ((566 : Nat))) :: (Value.str (Str.ofString ("Headers.add_header")) ((567 : Nat))) :: (Value.str (Str.ofString ("/claim/cut.py")) ((568 : Nat))) :: (Value.int (125) ((0 : Nat))) :: (Value.int (3) ((0 : Nat))) :: (Value.int (0) ((0 : Nat))) :: (Value.int (0) ((0 : Nat))) :: (Value.int (11) ((0 : Nat))) :: (Value.ref ((212 : Nat))) :: (Value.bool (Bool.true)) :: (Value.int (276) ((0 : Nat))) :: (Value.ref ((213 : Nat))) :: (Value.none) :: (Value.ref ((214 : Nat))) :: (Value.ref ((215 : Nat))) :: (Value.ref ((216 : Nat))) :: (Value.int (573) ((0 : Nat))) :: (Value.int (125) ((0 : Nat))) :: (Value.str (Str.ofString ("/claim/cut.py")) ((574 : Nat))) :: [])))) (#[])) ::
    ((nat_lit 218), Obj.mk (Value.type ("function")) (@Option.none Nat) (Data.func (FuncData.mk (Str.ofString ("add_header")) (Str.ofString ("Headers.add_header")) m12x16p (FuncBody.stmts m12x16b) m12x16s ((3 : Nat)) (@List.nil (Str × Nat)) (Value.none) (Value.none) (Value.none) (Value.str (Str.ofString ("cpy313.wsgiref.headers")) ((367 : Nat))) (@Option.none Nat) (Value.ref ((217 : Nat))) (Value.none) ((0 : Nat)))) (#[])) ::
    ((nat_lit 219), Obj.mk (Value.type ("tuple")) (@Option.none Nat) (Data.seq (#[Value.str (Str.ofString ("_headers")) ((576 : Nat))]) ((0 : Nat))) (#[])) ::
    ((nat_lit 220), Obj.mk (Value.type ("dict")) (@Option.none Nat) (Data.dict ((List.toArray ((kE P "__module__" (436 : Nat) (Value.str (Str.ofString ("cpy313.wsgiref.headers")) ((367 : Nat)))) :: (kE P "__firstlineno__" (440 : Nat) (Value.int (57) ((439 : Nat)))) :: (kE P "__init__" (450 : Nat) (Value.ref ((113 : Nat)))) :: (kE P "_convert_string_type" (460 : Nat) (Value.ref ((120 : Nat)))) :: (kE P "__len__" (467 : Nat) (Value.ref ((127 : Nat)))) :: (kE P "__setitem__" (476 : Nat) (Value.ref ((134 : Nat)))) :: (kE P "__delitem__" (482 : Nat) (Value.ref ((139 : Nat)))) :: (kE P "__getitem__" (490 : Nat) (Value.ref ((146 : Nat)))) :: (kE P "__contains__" (498 : Nat) (Value.ref ((153 : Nat)))) :: (kE P "get_all" (506 : Nat) (Value.ref ((160 : Nat)))) :: (kE P "get" (517 : Nat) (Value.ref ((168 : Nat)))) :: (kE P "keys" (523 : Nat) (Value.ref ((173 : Nat)))) :: (kE P "values" (529 : Nat) (Value.ref ((178 : Nat)))) :: (kE P "items" (536 : Nat) (Value.ref ((185 : Nat)))) :: (kE P "__repr__" (543 : Nat) (Value.ref ((192 : Nat)))) :: (kE P "__str__" (549 : Nat) (Value.ref ((197 : Nat)))) :: (kE P "__bytes__" (556 : Nat) (Value.ref ((204 : Nat)))) :: (kE P "setdefault" (565 : Nat) (Value.ref ((211 : Nat)))) :: (kE P "add_header" (575 : Nat) (Value.ref ((218 : Nat)))) :: (kE P "__static_attributes__" (577 : Nat) (Value.ref ((219 : Nat)))) :: (kE P "__dict__" (579 : Nat) (Value.ref ((222 : Nat)))) :: (kE P "__weakref__" (581 : Nat) (Value.ref ((223 : Nat)))) :: (kE P "__doc__" (582 : Nat) (Value.none)) :: []))) ((4 : Nat))) (#[])) ::
    ((nat_lit 221), Obj.mk (Value.type ("type")) (@Option.none Nat) (Data.cls (ClassData.mk (Str.ofString ("Headers")) ([Value.type ("object")]) ([Value.ref ((221 : Nat)), Value.type ("object")]) ((220 : Nat)) (Str.ofString ("Headers")) (Bool.true) ([]) ([]) (Bool.false) (Option.none) (Bool.false))) (#[Option.none, Option.none, Option.some (Value.str (Str.ofString ("Headers")) ((429 : Nat))), Option.some (Value.str (Str.ofString ("Headers")) ((437 : Nat))), Option.some (Value.builtin ("object.__new__")), Option.some (Value.bool (Bool.true))])) ::
    ((nat_lit 222), Obj.mk (Value.type ("getset_descriptor")) (@Option.none Nat) (Data.fields (#[Value.str (Str.ofString ("__dict__")) ((578 : Nat)), Value.ref ((221 : Nat)), Value.builtin ("function.__dict__"), Value.builtin ("function.__dict__#set")])) (#[])) ::
    ((nat_lit 223), Obj.mk (Value.type ("getset_descriptor")) (@Option.none Nat) (Data.fields (#[Value.str (Str.ofString ("__weakref__")) ((580 : Nat)), Value.ref ((221 : Nat)), Value.builtin ("ExceptionGroup.__weakref__"), Value.none])) (#[])) ::
    ((nat_lit 226), Obj.mk (Value.type ("tuple")) (@Option.none Nat) (Data.seq (#[]) ((0 : Nat))) (#[])) ::
    ((nat_lit 228), Obj.mk (Value.type ("tuple")) (@Option.none Nat) (Data.seq (#[Value.str (Str.ofString ("script")) ((590 : Nat)), Value.str (Str.ofString ("cells")) ((591 : Nat)), Value.str (Str.ofString ("place")) ((592 : Nat))]) ((0 : Nat))) (#[])) ::
    ((nat_lit 229), Obj.mk (Value.type ("tuple")) (@Option.none Nat) (Data.seq (#[]) ((0 : Nat))) (#[])) ::
    ((nat_lit 231), Obj.mk (Value.type ("code")) (@Option.none Nat) (Data.fields ((List.toArray ((Value.str (Str.ofString ("_law_cells")) ((587 : Nat))) :: (Value.str (Str.ofString ("_law_cells")) ((588 : Nat))) :: (Value.str (Str.ofString ("/claim/cut.py")) ((589 : Nat))) :: (Value.int (128) ((0 : Nat))) :: (Value.int (2) ((0 : Nat))) :: (Value.int (0) ((0 : Nat))) :: (Value.int (0) ((0 : Nat))) :: (Value.int (3) ((0 : Nat))) :: (Value.ref ((226 : Nat))) :: (Value.bool (Bool.true)) :: (Value.int (276) ((0 : Nat))) :: (Value.ref ((227 : Nat))) :: (Value.none) :: (Value.ref ((228 : Nat))) :: (Value.ref ((229 : Nat))) :: (Value.ref ((230 : Nat))) :: (Value.int (593) ((0 : Nat))) :: (Value.int (128) ((0 : Nat))) :: (Value.str (Str.ofString ("/claim/cut.py")) ((594 : Nat))) :: [])))) (#[])) ::
    ((nat_lit 232), Obj.mk (Value.type ("function")) (@Option.none Nat) (Data.func (FuncData.mk (Str.ofString ("_law_cells")) (Str.ofString ("_law_cells")) f14p (FuncBody.stmts f14b) f14s ((3 : Nat)) (@List.nil (Str × Nat)) (Value.none) (Value.none) (Value.none) (Value.str (Str.ofString ("law_ux0026_01")) ((585 : Nat))) (@Option.none Nat) (Value.ref ((231 : Nat))) (Value.none) ((0 : Nat)))) (#[])) ::
    ((nat_lit 233), Obj.mk (Value.type ("tuple")) (@Option.none Nat) (Data.seq (#[]) ((0 : Nat))) (#[])) ::
    ((nat_lit 235), Obj.mk (Value.type ("tuple")) (@Option.none Nat) (Data.seq (#[Value.str (Str.ofString ("number")) ((599 : Nat)), Value.str (Str.ofString ("readings")) ((600 : Nat)), Value.str (Str.ofString ("letter")) ((601 : Nat)), Value.str (Str.ofString ("tail")) ((602 : Nat)), Value.str (Str.ofString ("turn")) ((603 : Nat)), Value.str (Str.ofString ("told")) ((604 : Nat))]) ((0 : Nat))) (#[])) ::
    ((nat_lit 236), Obj.mk (Value.type ("tuple")) (@Option.none Nat) (Data.seq (#[]) ((0 : Nat))) (#[])) ::
    ((nat_lit 238), Obj.mk (Value.type ("code")) (@Option.none Nat) (Data.fields ((List.toArray ((Value.str (Str.ofString ("_law_part")) ((596 : Nat))) :: (Value.str (Str.ofString ("_law_part")) ((597 : Nat))) :: (Value.str (Str.ofString ("/claim/cut.py")) ((598 : Nat))) :: (Value.int (132) ((0 : Nat))) :: (Value.int (4) ((0 : Nat))) :: (Value.int (0) ((0 : Nat))) :: (Value.int (0) ((0 : Nat))) :: (Value.int (3) ((0 : Nat))) :: (Value.ref ((233 : Nat))) :: (Value.bool (Bool.true)) :: (Value.int (276) ((0 : Nat))) :: (Value.ref ((234 : Nat))) :: (Value.none) :: (Value.ref ((235 : Nat))) :: (Value.ref ((236 : Nat))) :: (Value.ref ((237 : Nat))) :: (Value.int (605) ((0 : Nat))) :: (Value.int (132) ((0 : Nat))) :: (Value.str (Str.ofString ("/claim/cut.py")) ((606 : Nat))) :: [])))) (#[])) ::
    ((nat_lit 239), Obj.mk (Value.type ("function")) (@Option.none Nat) (Data.func (FuncData.mk (Str.ofString ("_law_part")) (Str.ofString ("_law_part")) f15p (FuncBody.stmts f15b) f15s ((3 : Nat)) (@List.nil (Str × Nat)) (Value.none) (Value.none) (Value.none) (Value.str (Str.ofString ("law_ux0026_01")) ((585 : Nat))) (@Option.none Nat) (Value.ref ((238 : Nat))) (Value.none) ((0 : Nat)))) (#[])) ::
    ((nat_lit 240), Obj.mk (Value.type ("tuple")) (@Option.none Nat) (Data.seq (#[]) ((0 : Nat))) (#[])) ::
    ((nat_lit 242), Obj.mk (Value.type ("tuple")) (@Option.none Nat) (Data.seq (#[Value.str (Str.ofString ("step")) ((611 : Nat)), Value.str (Str.ofString ("readings")) ((612 : Nat)), Value.str (Str.ofString ("letter")) ((613 : Nat)), Value.str (Str.ofString ("tail")) ((614 : Nat)), Value.str (Str.ofString ("rows")) ((615 : Nat)), Value.str (Str.ofString ("left")) ((616 : Nat)), Value.str (Str.ofString ("row")) ((617 : Nat))]) ((0 : Nat))) (#[])) ::
    ((nat_lit 243), Obj.mk (Value.type ("tuple")) (@Option.none Nat) (Data.seq (#[]) ((0 : Nat))) (#[])) ::
    ((nat_lit 245), Obj.mk (Value.type ("code")) (@Option.none Nat) (Data.fields ((List.toArray ((Value.str (Str.ofString ("_law_rows")) ((608 : Nat))) :: (Value.str (Str.ofString ("_law_rows")) ((609 : Nat))) :: (Value.str (Str.ofString ("/claim/cut.py")) ((610 : Nat))) :: (Value.int (139) ((0 : Nat))) :: (Value.int (4) ((0 : Nat))) :: (Value.int (0) ((0 : Nat))) :: (Value.int (0) ((0 : Nat))) :: (Value.int (3) ((0 : Nat))) :: (Value.ref ((240 : Nat))) :: (Value.bool (Bool.true)) :: (Value.int (276) ((0 : Nat))) :: (Value.ref ((241 : Nat))) :: (Value.none) :: (Value.ref ((242 : Nat))) :: (Value.ref ((243 : Nat))) :: (Value.ref ((244 : Nat))) :: (Value.int (618) ((0 : Nat))) :: (Value.int (139) ((0 : Nat))) :: (Value.str (Str.ofString ("/claim/cut.py")) ((619 : Nat))) :: [])))) (#[])) ::
    ((nat_lit 246), Obj.mk (Value.type ("function")) (@Option.none Nat) (Data.func (FuncData.mk (Str.ofString ("_law_rows")) (Str.ofString ("_law_rows")) f16p (FuncBody.stmts f16b) f16s ((3 : Nat)) (@List.nil (Str × Nat)) (Value.none) (Value.none) (Value.none) (Value.str (Str.ofString ("law_ux0026_01")) ((585 : Nat))) (@Option.none Nat) (Value.ref ((245 : Nat))) (Value.none) ((0 : Nat)))) (#[])) ::
    ((nat_lit 247), Obj.mk (Value.type ("tuple")) (@Option.none Nat) (Data.seq (#[]) ((0 : Nat))) (#[])) ::
    ((nat_lit 249), Obj.mk (Value.type ("tuple")) (@Option.none Nat) (Data.seq (#[Value.str (Str.ofString ("rows")) ((624 : Nat)), Value.str (Str.ofString ("order")) ((625 : Nat)), Value.str (Str.ofString ("row")) ((626 : Nat)), Value.str (Str.ofString ("number")) ((627 : Nat))]) ((0 : Nat))) (#[])) ::
    ((nat_lit 250), Obj.mk (Value.type ("tuple")) (@Option.none Nat) (Data.seq (#[]) ((0 : Nat))) (#[])) ::
    ((nat_lit 252), Obj.mk (Value.type ("code")) (@Option.none Nat) (Data.fields ((List.toArray ((Value.str (Str.ofString ("_law_order")) ((621 : Nat))) :: (Value.str (Str.ofString ("_law_order")) ((622 : Nat))) :: (Value.str (Str.ofString ("/claim/cut.py")) ((623 : Nat))) :: (Value.int (147) ((0 : Nat))) :: (Value.int (1) ((0 : Nat))) :: (Value.int (0) ((0 : Nat))) :: (Value.int (0) ((0 : Nat))) :: (Value.int (3) ((0 : Nat))) :: (Value.ref ((247 : Nat))) :: (Value.bool (Bool.true)) :: (Value.int (276) ((0 : Nat))) :: (Value.ref ((248 : Nat))) :: (Value.none) :: (Value.ref ((249 : Nat))) :: (Value.ref ((250 : Nat))) :: (Value.ref ((251 : Nat))) :: (Value.int (628) ((0 : Nat))) :: (Value.int (147) ((0 : Nat))) :: (Value.str (Str.ofString ("/claim/cut.py")) ((629 : Nat))) :: [])))) (#[])) ::
    ((nat_lit 253), Obj.mk (Value.type ("function")) (@Option.none Nat) (Data.func (FuncData.mk (Str.ofString ("_law_order")) (Str.ofString ("_law_order")) f17p (FuncBody.stmts f17b) f17s ((3 : Nat)) (@List.nil (Str × Nat)) (Value.none) (Value.none) (Value.none) (Value.str (Str.ofString ("law_ux0026_01")) ((585 : Nat))) (@Option.none Nat) (Value.ref ((252 : Nat))) (Value.none) ((0 : Nat)))) (#[])) ::
    ((nat_lit 254), Obj.mk (Value.type ("tuple")) (@Option.none Nat) (Data.seq (#[]) ((0 : Nat))) (#[])) ::
    ((nat_lit 257), Obj.mk (Value.type ("code")) (@Option.none Nat) (Data.fields ((List.toArray ((Value.str (Str.ofString ("_law_ring")) ((631 : Nat))) :: (Value.str (Str.ofString ("_law_ring")) ((632 : Nat))) :: (Value.str (Str.ofString ("/claim/cut.py")) ((633 : Nat))) :: (Value.int (154) ((0 : Nat))) :: (Value.int (2) ((0 : Nat))) :: (Value.int (0) ((0 : Nat))) :: (Value.int (0) ((0 : Nat))) :: (Value.int (3) ((0 : Nat))) :: (Value.ref ((254 : Nat))) :: (Value.bool (Bool.true)) :: (Value.int (276) ((0 : Nat))) :: (Value.ref ((255 : Nat))) :: (Value.none) :: (Value.none) :: (Value.none) :: (Value.ref ((256 : Nat))) :: (Value.int (634) ((0 : Nat))) :: (Value.int (154) ((0 : Nat))) :: (Value.str (Str.ofString ("/claim/cut.py")) ((635 : Nat))) :: [])))) (#[])) ::
    ((nat_lit 258), Obj.mk (Value.type ("function")) (@Option.none Nat) (Data.func (FuncData.mk (Str.ofString ("_law_ring")) (Str.ofString ("_law_ring")) f18p (FuncBody.stmts f18b) f18s ((3 : Nat)) (@List.nil (Str × Nat)) (Value.none) (Value.none) (Value.none) (Value.str (Str.ofString ("law_ux0026_01")) ((585 : Nat))) (@Option.none Nat) (Value.ref ((257 : Nat))) (Value.none) ((0 : Nat)))) (#[])) ::
    ((nat_lit 259), Obj.mk (Value.type ("tuple")) (@Option.none Nat) (Data.seq (#[]) ((0 : Nat))) (#[])) ::
    ((nat_lit 262), Obj.mk (Value.type ("code")) (@Option.none Nat) (Data.fields ((List.toArray ((Value.str (Str.ofString ("_law_due")) ((637 : Nat))) :: (Value.str (Str.ofString ("_law_due")) ((638 : Nat))) :: (Value.str (Str.ofString ("/claim/cut.py")) ((639 : Nat))) :: (Value.int (167) ((0 : Nat))) :: (Value.int (3) ((0 : Nat))) :: (Value.int (0) ((0 : Nat))) :: (Value.int (0) ((0 : Nat))) :: (Value.int (3) ((0 : Nat))) :: (Value.ref ((259 : Nat))) :: (Value.bool (Bool.true)) :: (Value.int (276) ((0 : Nat))) :: (Value.ref ((260 : Nat))) :: (Value.none) :: (Value.none) :: (Value.none) :: (Value.ref ((261 : Nat))) :: (Value.int (640) ((0 : Nat))) :: (Value.int (167) ((0 : Nat))) :: (Value.str (Str.ofString ("/claim/cut.py")) ((641 : Nat))) :: [])))) (#[])) ::
    ((nat_lit 263), Obj.mk (Value.type ("function")) (@Option.none Nat) (Data.func (FuncData.mk (Str.ofString ("_law_due")) (Str.ofString ("_law_due")) f19p (FuncBody.stmts f19b) f19s ((3 : Nat)) (@List.nil (Str × Nat)) (Value.none) (Value.none) (Value.none) (Value.str (Str.ofString ("law_ux0026_01")) ((585 : Nat))) (@Option.none Nat) (Value.ref ((262 : Nat))) (Value.none) ((0 : Nat)))) (#[])) ::
    ((nat_lit 264), Obj.mk (Value.type ("tuple")) (@Option.none Nat) (Data.seq (#[]) ((0 : Nat))) (#[])) ::
    ((nat_lit 266), Obj.mk (Value.type ("tuple")) (@Option.none Nat) (Data.seq (#[Value.str (Str.ofString ("reply")) ((646 : Nat))]) ((0 : Nat))) (#[])) ::
    ((nat_lit 267), Obj.mk (Value.type ("tuple")) (@Option.none Nat) (Data.seq (#[]) ((0 : Nat))) (#[])) ::
    ((nat_lit 269), Obj.mk (Value.type ("code")) (@Option.none Nat) (Data.fields ((List.toArray ((Value.str (Str.ofString ("_law_refused")) ((643 : Nat))) :: (Value.str (Str.ofString ("_law_refused")) ((644 : Nat))) :: (Value.str (Str.ofString ("/claim/cut.py")) ((645 : Nat))) :: (Value.int (185) ((0 : Nat))) :: (Value.int (1) ((0 : Nat))) :: (Value.int (0) ((0 : Nat))) :: (Value.int (0) ((0 : Nat))) :: (Value.int (3) ((0 : Nat))) :: (Value.ref ((264 : Nat))) :: (Value.bool (Bool.true)) :: (Value.int (276) ((0 : Nat))) :: (Value.ref ((265 : Nat))) :: (Value.none) :: (Value.ref ((266 : Nat))) :: (Value.ref ((267 : Nat))) :: (Value.ref ((268 : Nat))) :: (Value.int (647) ((0 : Nat))) :: (Value.int (185) ((0 : Nat))) :: (Value.str (Str.ofString ("/claim/cut.py")) ((648 : Nat))) :: [])))) (#[])) ::
    ((nat_lit 270), Obj.mk (Value.type ("function")) (@Option.none Nat) (Data.func (FuncData.mk (Str.ofString ("_law_refused")) (Str.ofString ("_law_refused")) f20p (FuncBody.stmts f20b) f20s ((3 : Nat)) (@List.nil (Str × Nat)) (Value.none) (Value.none) (Value.none) (Value.str (Str.ofString ("law_ux0026_01")) ((585 : Nat))) (@Option.none Nat) (Value.ref ((269 : Nat))) (Value.none) ((0 : Nat)))) (#[])) ::
    ((nat_lit 271), Obj.mk (Value.type ("tuple")) (@Option.none Nat) (Data.seq (#[]) ((0 : Nat))) (#[])) ::
    ((nat_lit 274), Obj.mk (Value.type ("code")) (@Option.none Nat) (Data.fields ((List.toArray ((Value.str (Str.ofString ("law")) ((650 : Nat))) :: (Value.str (Str.ofString ("law")) ((651 : Nat))) :: (Value.str (Str.ofString ("/claim/cut.py")) ((652 : Nat))) :: (Value.int (191) ((0 : Nat))) :: (Value.int (1) ((0 : Nat))) :: (Value.int (0) ((0 : Nat))) :: (Value.int (0) ((0 : Nat))) :: (Value.int (3) ((0 : Nat))) :: (Value.ref ((271 : Nat))) :: (Value.bool (Bool.true)) :: (Value.int (276) ((0 : Nat))) :: (Value.ref ((272 : Nat))) :: (Value.none) :: (Value.none) :: (Value.none) :: (Value.ref ((273 : Nat))) :: (Value.int (653) ((0 : Nat))) :: (Value.int (191) ((0 : Nat))) :: (Value.str (Str.ofString ("/claim/cut.py")) ((654 : Nat))) :: [])))) (#[])) ::
    ((nat_lit 275), Obj.mk (Value.type ("function")) (@Option.none Nat) (Data.func (FuncData.mk (Str.ofString ("law")) (Str.ofString ("law")) f21p (FuncBody.stmts f21b) f21s ((3 : Nat)) (@List.nil (Str × Nat)) (Value.none) (Value.none) (Value.none) (Value.str (Str.ofString ("law_ux0026_01")) ((585 : Nat))) (@Option.none Nat) (Value.ref ((274 : Nat))) (Value.none) ((0 : Nat)))) (#[])) :: [] : List (Nat × Obj))) = K → Params → Frag) ?b ?h
  case h => delta kE f1p f1b f1s f14p f14b f14s f15p f15b f15s f16p f16b f16s f17p f17b f17s f18p f18b f18s f19p f19b f19s f20p f20b f20s f21p f21b f21s f3p f3b f3s f4p f4b f4s f8p f8b f8s m12x0p m12x0b m12x0s m12x1p m12x1b m12x1s m12x10p m12x10b m12x10s m12x11p m12x11b m12x11s m12x12p m12x12b m12x12s m12x13p m12x13b m12x13s m12x14p m12x14b m12x14s m12x15p m12x15b m12x15s m12x16p m12x16b m12x16s m12x2p m12x2b m12x2s m12x3p m12x3b m12x3s m12x4p m12x4b m12x4s m12x5p m12x5b m12x5s m12x6p m12x6b m12x6s m12x7p m12x7b m12x7s m12x8p m12x8b m12x8s m12x9p m12x9b m12x9s; exact rfl
  case f => exact fun K _ => K
abbrev looseK : List Str := [Str.ofString "insort_right", Str.ofString "bisect_right", Str.ofString "_name_disallowed_re", Str.ofString "_value_disallowed_re"]
noncomputable def viewK : Program := view PySem.Challenge.pw_ux0026_01 [0, 1, 6, 7, 8, 10, 11, 12, 14, 15, 16, 17, 18, 19, 20, 21]
abbrev addrsK : List Addr := [2, 3, 32, 34, 35, 37, 38, 39, 40, 41, 43, 44, 46, 47, 48, 49, 50, 52, 53, 55, 56, 57, 64, 65, 66, 67, 70, 77, 78, 79, 82, 84, 85, 87, 88, 92, 93, 97, 98, 106, 107, 109, 110, 112, 113, 114, 116, 117, 119, 120, 121, 123, 124, 126, 127, 128, 130, 131, 133, 134, 135, 138, 139, 140, 142, 143, 145, 146, 147, 149, 150, 152, 153, 154, 156, 157, 159, 160, 161, 162, 164, 165, 167, 168, 169, 172, 173, 174, 177, 178, 179, 181, 182, 184, 185, 186, 188, 189, 191, 192, 193, 196, 197, 198, 200, 201, 203, 204, 205, 207, 208, 210, 211, 212, 214, 215, 217, 218, 219, 220, 221, 222, 223, 226, 228, 229, 231, 232, 233, 235, 236, 238, 239, 240, 242, 243, 245, 246, 247, 249, 250, 252, 253, 254, 257, 258, 259, 262, 263, 264, 266, 267, 269, 270, 271, 274, 275]
noncomputable def posAt (p : Program) (i : Nat) : Pos := match p.main.body[i]? with | some (.FunctionDef _ _ _ _ _ _ _ _ _ pos) => pos | _ => default
noncomputable def posL : Pos := by
  refine (?f : ∀ b : Pos, posAt PySem.Challenge.pw_ux0026_01 21 = b → Pos) ?b ?h
  case h => conv => lhs; whnf
  case f => exact fun b _ => b
noncomputable def recLaw : DefRec := by
  refine (?f : ∀ b : DefRec, DefRec.mk (Str.ofString "law") f21p f21b f21s posL = b → DefRec) ?b ?h
  case h => delta posL f21p f21b f21s; exact rfl
  case f => exact fun b _ => b
noncomputable def o0K (P : Params) : Obj := Obj.mk (Value.type ("dict")) (@Option.none Nat) (Data.dict ((List.toArray ((kE P "__name__" (1 : Nat) (Value.str (Str.ofString ("builtins")) ((160 : Nat)))) :: (kE P "__doc__" (2 : Nat) (Value.builtin ("builtins.__doc__:str#opaque"))) :: (kE P "__package__" (3 : Nat) (Value.builtin ("builtins.__package__:str#opaque"))) :: (kE P "__loader__" (4 : Nat) (Value.builtin ("builtins.__loader__:shared#opaque"))) :: (kE P "__spec__" (5 : Nat) (Value.builtin ("builtins.__spec__#opaque"))) :: (kE P "__build_class__" (6 : Nat) (Value.builtin ("__build_class__"))) :: (kE P "__import__" (7 : Nat) (Value.builtin ("__import__"))) :: (kE P "abs" (8 : Nat) (Value.builtin ("abs"))) :: (kE P "all" (9 : Nat) (Value.builtin ("all"))) :: (kE P "any" (10 : Nat) (Value.builtin ("any"))) :: (kE P "ascii" (11 : Nat) (Value.builtin ("ascii"))) :: (kE P "bin" (12 : Nat) (Value.builtin ("bin"))) :: (kE P "breakpoint" (13 : Nat) (Value.builtin ("breakpoint"))) :: (kE P "callable" (14 : Nat) (Value.builtin ("callable"))) :: (kE P "chr" (15 : Nat) (Value.builtin ("chr"))) :: (kE P "compile" (16 : Nat) (Value.builtin ("compile"))) :: (kE P "delattr" (17 : Nat) (Value.builtin ("delattr"))) :: (kE P "dir" (18 : Nat) (Value.builtin ("dir"))) :: (kE P "divmod" (19 : Nat) (Value.builtin ("divmod"))) :: (kE P "eval" (20 : Nat) (Value.builtin ("eval"))) :: (kE P "exec" (21 : Nat) (Value.builtin ("exec"))) :: (kE P "format" (22 : Nat) (Value.builtin ("format"))) :: (kE P "getattr" (23 : Nat) (Value.builtin ("getattr"))) :: (kE P "globals" (24 : Nat) (Value.builtin ("globals"))) :: (kE P "hasattr" (25 : Nat) (Value.builtin ("hasattr"))) :: (kE P "hash" (26 : Nat) (Value.builtin ("hash"))) :: (kE P "hex" (27 : Nat) (Value.builtin ("hex"))) :: (kE P "id" (28 : Nat) (Value.builtin ("id"))) :: (kE P "input" (29 : Nat) (Value.builtin ("input"))) :: (kE P "isinstance" (30 : Nat) (Value.builtin ("isinstance"))) :: (kE P "issubclass" (31 : Nat) (Value.builtin ("issubclass"))) :: (kE P "iter" (32 : Nat) (Value.builtin ("iter"))) :: (kE P "aiter" (33 : Nat) (Value.builtin ("aiter"))) :: (kE P "len" (34 : Nat) (Value.builtin ("len"))) :: (kE P "locals" (35 : Nat) (Value.builtin ("locals"))) :: (kE P "max" (36 : Nat) (Value.builtin ("max"))) :: (kE P "min" (37 : Nat) (Value.builtin ("min"))) :: (kE P "next" (38 : Nat) (Value.builtin ("next"))) :: (kE P "anext" (39 : Nat) (Value.builtin ("anext"))) :: (kE P "oct" (40 : Nat) (Value.builtin ("oct"))) :: (kE P "ord" (41 : Nat) (Value.builtin ("ord"))) :: (kE P "pow" (42 : Nat) (Value.builtin ("pow"))) :: (kE P "print" (43 : Nat) (Value.builtin ("print"))) :: (kE P "repr" (44 : Nat) (Value.builtin ("repr"))) :: (kE P "round" (45 : Nat) (Value.builtin ("round"))) :: (kE P "setattr" (46 : Nat) (Value.builtin ("setattr"))) :: (kE P "sorted" (47 : Nat) (Value.builtin ("sorted"))) :: (kE P "sum" (48 : Nat) (Value.builtin ("sum"))) :: (kE P "vars" (49 : Nat) (Value.builtin ("vars"))) :: (kE P "None" (50 : Nat) (Value.none)) :: (kE P "Ellipsis" (51 : Nat) (Value.ellipsis)) :: (kE P "NotImplemented" (52 : Nat) (Value.notImplemented)) :: (kE P "False" (53 : Nat) (Value.bool (Bool.false))) :: (kE P "True" (54 : Nat) (Value.bool (Bool.true))) :: (kE P "bool" (55 : Nat) (Value.type ("bool"))) :: (kE P "memoryview" (56 : Nat) (Value.type ("memoryview"))) :: (kE P "bytearray" (57 : Nat) (Value.type ("bytearray"))) :: (kE P "bytes" (58 : Nat) (Value.type ("bytes"))) :: (kE P "classmethod" (59 : Nat) (Value.type ("classmethod"))) :: (kE P "complex" (60 : Nat) (Value.type ("complex"))) :: (kE P "dict" (61 : Nat) (Value.type ("dict"))) :: (kE P "enumerate" (62 : Nat) (Value.type ("enumerate"))) :: (kE P "filter" (63 : Nat) (Value.type ("filter"))) :: (kE P "float" (64 : Nat) (Value.type ("float"))) :: (kE P "frozenset" (65 : Nat) (Value.type ("frozenset"))) :: (kE P "property" (66 : Nat) (Value.type ("property"))) :: (kE P "int" (67 : Nat) (Value.type ("int"))) :: (kE P "list" (68 : Nat) (Value.type ("list"))) :: (kE P "map" (69 : Nat) (Value.type ("map"))) :: (kE P "object" (70 : Nat) (Value.type ("object"))) :: (kE P "range" (71 : Nat) (Value.type ("range"))) :: (kE P "reversed" (72 : Nat) (Value.type ("reversed"))) :: (kE P "set" (73 : Nat) (Value.type ("set"))) :: (kE P "slice" (74 : Nat) (Value.type ("slice"))) :: (kE P "staticmethod" (75 : Nat) (Value.type ("staticmethod"))) :: (kE P "str" (76 : Nat) (Value.type ("str"))) :: (kE P "super" (77 : Nat) (Value.type ("super"))) :: (kE P "tuple" (78 : Nat) (Value.type ("tuple"))) :: (kE P "type" (79 : Nat) (Value.type ("type"))) :: (kE P "zip" (80 : Nat) (Value.type ("zip"))) :: (kE P "__debug__" (81 : Nat) (Value.bool (Bool.true))) :: (kE P "BaseException" (82 : Nat) (Value.type ("BaseException"))) :: (kE P "BaseExceptionGroup" (83 : Nat) (Value.type ("BaseExceptionGroup"))) :: (kE P "Exception" (84 : Nat) (Value.type ("Exception"))) :: (kE P "GeneratorExit" (85 : Nat) (Value.type ("GeneratorExit"))) :: (kE P "KeyboardInterrupt" (86 : Nat) (Value.type ("KeyboardInterrupt"))) :: (kE P "SystemExit" (87 : Nat) (Value.type ("SystemExit"))) :: (kE P "ArithmeticError" (88 : Nat) (Value.type ("ArithmeticError"))) :: (kE P "AssertionError" (89 : Nat) (Value.type ("AssertionError"))) :: (kE P "AttributeError" (90 : Nat) (Value.type ("AttributeError"))) :: (kE P "BufferError" (91 : Nat) (Value.type ("BufferError"))) :: (kE P "EOFError" (92 : Nat) (Value.type ("EOFError"))) :: (kE P "ImportError" (93 : Nat) (Value.type ("ImportError"))) :: (kE P "LookupError" (94 : Nat) (Value.type ("LookupError"))) :: (kE P "MemoryError" (95 : Nat) (Value.type ("MemoryError"))) :: (kE P "NameError" (96 : Nat) (Value.type ("NameError"))) :: (kE P "OSError" (97 : Nat) (Value.type ("OSError"))) :: (kE P "ReferenceError" (98 : Nat) (Value.type ("ReferenceError"))) :: (kE P "RuntimeError" (99 : Nat) (Value.type ("RuntimeError"))) :: (kE P "StopAsyncIteration" (100 : Nat) (Value.type ("StopAsyncIteration"))) :: (kE P "StopIteration" (101 : Nat) (Value.type ("StopIteration"))) :: (kE P "SyntaxError" (102 : Nat) (Value.type ("SyntaxError"))) :: (kE P "SystemError" (103 : Nat) (Value.type ("SystemError"))) :: (kE P "TypeError" (104 : Nat) (Value.type ("TypeError"))) :: (kE P "ValueError" (105 : Nat) (Value.type ("ValueError"))) :: (kE P "Warning" (106 : Nat) (Value.type ("Warning"))) :: (kE P "FloatingPointError" (107 : Nat) (Value.type ("FloatingPointError"))) :: (kE P "OverflowError" (108 : Nat) (Value.type ("OverflowError"))) :: (kE P "ZeroDivisionError" (109 : Nat) (Value.type ("ZeroDivisionError"))) :: (kE P "BytesWarning" (110 : Nat) (Value.type ("BytesWarning"))) :: (kE P "DeprecationWarning" (111 : Nat) (Value.type ("DeprecationWarning"))) :: (kE P "EncodingWarning" (112 : Nat) (Value.type ("EncodingWarning"))) :: (kE P "FutureWarning" (113 : Nat) (Value.type ("FutureWarning"))) :: (kE P "ImportWarning" (114 : Nat) (Value.type ("ImportWarning"))) :: (kE P "PendingDeprecationWarning" (115 : Nat) (Value.type ("PendingDeprecationWarning"))) :: (kE P "ResourceWarning" (116 : Nat) (Value.type ("ResourceWarning"))) :: (kE P "RuntimeWarning" (117 : Nat) (Value.type ("RuntimeWarning"))) :: (kE P "SyntaxWarning" (118 : Nat) (Value.type ("SyntaxWarning"))) :: (kE P "UnicodeWarning" (119 : Nat) (Value.type ("UnicodeWarning"))) :: (kE P "UserWarning" (120 : Nat) (Value.type ("UserWarning"))) :: (kE P "BlockingIOError" (121 : Nat) (Value.type ("BlockingIOError"))) :: (kE P "ChildProcessError" (122 : Nat) (Value.type ("ChildProcessError"))) :: (kE P "ConnectionError" (123 : Nat) (Value.type ("ConnectionError"))) :: (kE P "FileExistsError" (124 : Nat) (Value.type ("FileExistsError"))) :: (kE P "FileNotFoundError" (125 : Nat) (Value.type ("FileNotFoundError"))) :: (kE P "InterruptedError" (126 : Nat) (Value.type ("InterruptedError"))) :: (kE P "IsADirectoryError" (127 : Nat) (Value.type ("IsADirectoryError"))) :: (kE P "NotADirectoryError" (128 : Nat) (Value.type ("NotADirectoryError"))) :: (kE P "PermissionError" (129 : Nat) (Value.type ("PermissionError"))) :: (kE P "ProcessLookupError" (130 : Nat) (Value.type ("ProcessLookupError"))) :: (kE P "TimeoutError" (131 : Nat) (Value.type ("TimeoutError"))) :: (kE P "IndentationError" (132 : Nat) (Value.type ("IndentationError"))) :: (kE P "_IncompleteInputError" (133 : Nat) (Value.type ("_IncompleteInputError"))) :: (kE P "IndexError" (134 : Nat) (Value.type ("IndexError"))) :: (kE P "KeyError" (135 : Nat) (Value.type ("KeyError"))) :: (kE P "ModuleNotFoundError" (136 : Nat) (Value.type ("ModuleNotFoundError"))) :: (kE P "NotImplementedError" (137 : Nat) (Value.type ("NotImplementedError"))) :: (kE P "PythonFinalizationError" (138 : Nat) (Value.type ("PythonFinalizationError"))) :: (kE P "RecursionError" (139 : Nat) (Value.type ("RecursionError"))) :: (kE P "UnboundLocalError" (140 : Nat) (Value.type ("UnboundLocalError"))) :: (kE P "UnicodeError" (141 : Nat) (Value.type ("UnicodeError"))) :: (kE P "BrokenPipeError" (142 : Nat) (Value.type ("BrokenPipeError"))) :: (kE P "ConnectionAbortedError" (143 : Nat) (Value.type ("ConnectionAbortedError"))) :: (kE P "ConnectionRefusedError" (144 : Nat) (Value.type ("ConnectionRefusedError"))) :: (kE P "ConnectionResetError" (145 : Nat) (Value.type ("ConnectionResetError"))) :: (kE P "TabError" (146 : Nat) (Value.type ("TabError"))) :: (kE P "UnicodeDecodeError" (147 : Nat) (Value.type ("UnicodeDecodeError"))) :: (kE P "UnicodeEncodeError" (148 : Nat) (Value.type ("UnicodeEncodeError"))) :: (kE P "UnicodeTranslateError" (149 : Nat) (Value.type ("UnicodeTranslateError"))) :: (kE P "ExceptionGroup" (150 : Nat) (Value.type ("ExceptionGroup"))) :: (kE P "EnvironmentError" (151 : Nat) (Value.type ("OSError"))) :: (kE P "IOError" (152 : Nat) (Value.type ("OSError"))) :: (kE P "open" (153 : Nat) (Value.builtin ("open"))) :: (kE P "quit" (154 : Nat) (Value.builtin ("builtins.quit#opaque"))) :: (kE P "exit" (155 : Nat) (Value.builtin ("builtins.exit#opaque"))) :: (kE P "copyright" (156 : Nat) (Value.builtin ("builtins.copyright#opaque"))) :: (kE P "credits" (157 : Nat) (Value.builtin ("builtins.credits#opaque"))) :: (kE P "license" (158 : Nat) (Value.builtin ("builtins.license#opaque"))) :: (kE P "help" (159 : Nat) (Value.builtin ("builtins.help#opaque"))) :: []))) ((159 : Nat))) (#[])
noncomputable def o1K (P : Params) : Obj := Obj.mk (Value.type ("dict")) (@Option.none Nat) (Data.dict (#[kE P "builtins" (162 : Nat) (Value.ref ((4 : Nat))), kE P "__main__" (163 : Nat) (Value.ref ((5 : Nat))), kE P "_sre" (244 : Nat) (Value.ref ((12 : Nat)))]) ((3 : Nat))) (#[])
noncomputable def o2K (P : Params) : Obj := Obj.mk (Value.none) (@Option.none Nat) (Data.dict (#[kE P "\x69mport.loaded._sre" (183 : Nat) (Value.bool (Bool.true)), kE P "class._frozen_importlib.BuiltinImporter" (185 : Nat) (Value.ref ((14 : Nat))), kE P "watched.\x69mport" (206 : Nat) (Value.ref ((18 : Nat))), kE P "class._frozen_importlib.ModuleSpec" (216 : Nat) (Value.ref ((22 : Nat))), kE P "sys.modules.booked-epoch" (245 : Nat) (Value.int (3) ((0 : Nat))), kE P "\x69mport.later-laid._sre" (270 : Nat) (Value.bool (Bool.true)), kE P "watched.library" (272 : Nat) (Value.ref ((27 : Nat))), kE P "watched.library-objects" (0 : Nat) (Value.str (Str.ofString ("\x0c")) ((0 : Nat))), kE P "watched.library-deep._sre" (273 : Nat) (Value.str (Str.ofString ("\x04\x00\x00\x0b\x04\x00\x00\x0b\x04\x00\x00\x03\x04\x00\x00\x0b\x08\x04dict\x02")) ((0 : Nat)))]) ((9 : Nat))) (#[])
noncomputable def o3K (P : Params) : Obj := Obj.mk (Value.type ("dict")) (@Option.none Nat) (Data.dict (#[kE P "__name__" (165 : Nat) (Value.str (Str.ofString ("__main__")) ((164 : Nat))), kE P "__doc__" (166 : Nat) (Value.none), kE P "__package__" (167 : Nat) (Value.none), kE P "__loader__" (168 : Nat) (Value.builtin ("__main__.__loader__#opaque")), kE P "__spec__" (169 : Nat) (Value.none), kE P "__annotations__" (170 : Nat) (Value.ref ((6 : Nat))), kE P "__builtins__" (171 : Nat) (Value.ref ((4 : Nat))), kE P "__file__" (173 : Nat) (Value.str (Str.ofString ("/claim/cut.py")) ((172 : Nat))), kE P "__cached__" (174 : Nat) (Value.none), kE P "_sre" (275 : Nat) (Value.ref ((12 : Nat)))]) ((10 : Nat))) (#[])
noncomputable def o4K (P : Params) : Obj := Obj.mk (Value.type ("module")) (Option.some ((0 : Nat))) (Data.plain) (#[])
noncomputable def o5K (P : Params) : Obj := Obj.mk (Value.type ("module")) (Option.some ((3 : Nat))) (Data.plain) (#[])
noncomputable def o6K (P : Params) : Obj := Obj.mk (Value.type ("dict")) (@Option.none Nat) (Data.dict (#[]) ((0 : Nat))) (#[])
noncomputable def o7K (P : Params) : Obj := Obj.mk (Value.type ("tuple")) (@Option.none Nat) (Data.seq (#[]) ((0 : Nat))) (#[])
noncomputable def o8K (P : Params) : Obj := Obj.mk (Value.none) (@Option.none Nat) (Data.fields (#[])) (#[])
noncomputable def o9K (P : Params) : Obj := Obj.mk (Value.type ("code")) (@Option.none Nat) (Data.fields ((List.toArray ((Value.str (Str.ofString ("<module>")) ((176 : Nat))) :: (Value.str (Str.ofString ("<module>")) ((177 : Nat))) :: (Value.str (Str.ofString ("/claim/cut.py")) ((178 : Nat))) :: (Value.int (1) ((0 : Nat))) :: (Value.int (0) ((0 : Nat))) :: (Value.int (0) ((0 : Nat))) :: (Value.int (0) ((0 : Nat))) :: (Value.int (0) ((0 : Nat))) :: (Value.ref ((7 : Nat))) :: (Value.bool (Bool.false)) :: (Value.int (175) ((0 : Nat))) :: (Value.ref ((8 : Nat))) :: (Value.none) :: (Value.none) :: (Value.none) :: (Value.none) :: (Value.int (179) ((0 : Nat))) :: (Value.int (1) ((0 : Nat))) :: (Value.str (Str.ofString ("/claim/cut.py")) ((180 : Nat))) :: [])))) (#[])
noncomputable def o10K (P : Params) : Obj := Obj.mk (Value.type ("frame")) (@Option.none Nat) (Data.plain) (#[Option.some (Value.ref ((9 : Nat))), Option.some (Value.ref ((3 : Nat))), Option.some (Value.ref ((3 : Nat))), Option.none, Option.some (Value.str (Str.ofString ("__main__")) ((164 : Nat))), Option.none, Option.some (Value.ref ((0 : Nat)))])
noncomputable def o11K (P : Params) : Obj := Obj.mk (Value.type ("dict")) (@Option.none Nat) (Data.dict ((List.toArray ((kE P "__name__" (247 : Nat) (Value.str (Str.ofString ("_sre")) ((246 : Nat)))) :: (kE P "__doc__" (248 : Nat) (Value.none)) :: (kE P "__package__" (250 : Nat) (Value.str (Str.ofString ("")) ((249 : Nat)))) :: (kE P "__loader__" (251 : Nat) (Value.ref ((14 : Nat)))) :: (kE P "__spec__" (252 : Nat) (Value.ref ((26 : Nat)))) :: (kE P "compile" (253 : Nat) (Value.builtin ("_sre.compile"))) :: (kE P "template" (254 : Nat) (Value.builtin ("_sre.template"))) :: (kE P "getcodesize" (255 : Nat) (Value.builtin ("_sre.getcodesize"))) :: (kE P "ascii_iscased" (256 : Nat) (Value.builtin ("_sre.ascii_iscased"))) :: (kE P "unicode_iscased" (257 : Nat) (Value.builtin ("_sre.unicode_iscased"))) :: (kE P "ascii_tolower" (258 : Nat) (Value.builtin ("_sre.ascii_tolower"))) :: (kE P "unicode_tolower" (259 : Nat) (Value.builtin ("_sre.unicode_tolower"))) :: (kE P "MAGIC" (261 : Nat) (Value.int (20230612) ((260 : Nat)))) :: (kE P "CODESIZE" (263 : Nat) (Value.int (4) ((262 : Nat)))) :: (kE P "MAXREPEAT" (265 : Nat) (Value.int (4294967295) ((264 : Nat)))) :: (kE P "MAXGROUPS" (267 : Nat) (Value.int (1073741823) ((266 : Nat)))) :: (kE P "copyright" (269 : Nat) (Value.str (Str.ofString (" SRE 2.2.2 Copyright (c) 1997-2002 by Secret Labs AB ")) ((268 : Nat)))) :: []))) ((17 : Nat))) (#[])
noncomputable def o12K (P : Params) : Obj := Obj.mk (Value.type ("module")) (Option.some ((11 : Nat))) (Data.plain) (#[])
noncomputable def o13K (P : Params) : Obj := Obj.mk (Value.type ("dict")) (@Option.none Nat) (Data.dict (#[kE P "__module__" (189 : Nat) (Value.str (Str.ofString ("_frozen_importlib")) ((186 : Nat))), kE P "__firstlineno__" (190 : Nat) (Value.int (971) ((187 : Nat))), kE P "__doc__" (191 : Nat) (Value.builtin ("_frozen_importlib.BuiltinImporter.__doc__:str#opaque")), kE P "_ORIGIN" (192 : Nat) (Value.str (Str.ofString ("built-in")) ((188 : Nat))), kE P "find_spec" (193 : Nat) (Value.builtin ("_frozen_importlib.BuiltinImporter.find_spec#opaque")), kE P "create_module" (194 : Nat) (Value.builtin ("_frozen_importlib.BuiltinImporter.create_module#opaque")), kE P "exec_module" (195 : Nat) (Value.builtin ("_frozen_importlib.BuiltinImporter.exec_module#opaque")), kE P "get_code" (196 : Nat) (Value.builtin ("_frozen_importlib.BuiltinImporter.get_code#opaque")), kE P "get_source" (197 : Nat) (Value.builtin ("_frozen_importlib.BuiltinImporter.get_source#opaque")), kE P "is_package" (198 : Nat) (Value.builtin ("_frozen_importlib.BuiltinImporter.is_package#opaque")), kE P "load_module" (199 : Nat) (Value.builtin ("_frozen_importlib.BuiltinImporter.load_module#opaque")), kE P "__static_attributes__" (200 : Nat) (Value.ref ((15 : Nat))), kE P "__dict__" (202 : Nat) (Value.ref ((16 : Nat))), kE P "__weakref__" (204 : Nat) (Value.ref ((17 : Nat)))]) ((14 : Nat))) (#[])
noncomputable def o14K (P : Params) : Obj := Obj.mk (Value.type ("type")) (@Option.none Nat) (Data.cls (ClassData.mk (Str.ofString ("BuiltinImporter")) ([Value.type ("object")]) ([Value.ref ((14 : Nat)), Value.type ("object")]) ((13 : Nat)) (Str.ofString ("BuiltinImporter")) (Bool.true) ([]) ([]) (Bool.false) (Option.none) (Bool.false))) (#[])
noncomputable def o15K (P : Params) : Obj := Obj.mk (Value.type ("getset_descriptor")) (@Option.none Nat) (Data.fields (#[Value.str (Str.ofString ("__dict__")) ((201 : Nat)), Value.ref ((14 : Nat)), Value.builtin ("function.__dict__"), Value.builtin ("function.__dict__#set")])) (#[])
noncomputable def o16K (P : Params) : Obj := Obj.mk (Value.type ("getset_descriptor")) (@Option.none Nat) (Data.fields (#[Value.str (Str.ofString ("__weakref__")) ((203 : Nat)), Value.ref ((14 : Nat)), Value.builtin ("ExceptionGroup.__weakref__"), Value.none])) (#[])
noncomputable def o17K (x1 x2 : Str) (P : Params) : Obj := Obj.mk (Value.none) (@Option.none Nat) (Data.seq (#[Value.int (13) ((0 : Nat)), Value.str (x1) ((0 : Nat)), Value.bool (Bool.true), Value.bool (Bool.true), Value.str (Str.ofString ("")) ((205 : Nat)), Value.int (21) ((0 : Nat)), Value.str (x2) ((0 : Nat)), Value.bool (Bool.true), Value.bool (Bool.true), Value.str (Str.ofString ("")) ((242 : Nat))]) ((1 : Nat))) (#[])
noncomputable def o18K (P : Params) : Obj := Obj.mk (Value.type ("list")) (@Option.none Nat) (Data.seq (#[]) ((0 : Nat))) (#[])
noncomputable def o19K (P : Params) : Obj := Obj.mk (Value.type ("dict")) (@Option.none Nat) (Data.dict (#[kE P "name" (208 : Nat) (Value.str (Str.ofString ("_sre")) ((207 : Nat))), kE P "loader" (209 : Nat) (Value.ref ((14 : Nat))), kE P "origin" (210 : Nat) (Value.str (Str.ofString ("built-in")) ((184 : Nat))), kE P "loader_state" (211 : Nat) (Value.none), kE P "submodule_search_locations" (212 : Nat) (Value.none), kE P "_uninitialized_submodules" (213 : Nat) (Value.ref ((19 : Nat))), kE P "_set_fileattr" (214 : Nat) (Value.bool (Bool.false)), kE P "_cached" (215 : Nat) (Value.none), kE P "_initializing" (243 : Nat) (Value.bool (Bool.false))]) ((9 : Nat))) (#[])
noncomputable def o20K (P : Params) : Obj := Obj.mk (Value.type ("dict")) (@Option.none Nat) (Data.dict (#[kE P "__module__" (227 : Nat) (Value.str (Str.ofString ("_frozen_importlib")) ((217 : Nat))), kE P "__firstlineno__" (228 : Nat) (Value.int (562) ((218 : Nat))), kE P "__doc__" (229 : Nat) (Value.builtin ("_frozen_importlib.ModuleSpec.__doc__:str#opaque")), kE P "__init__" (230 : Nat) (Value.builtin ("_frozen_importlib.ModuleSpec.__init__#opaque")), kE P "__repr__" (231 : Nat) (Value.builtin ("_frozen_importlib.ModuleSpec.__repr__#opaque")), kE P "__eq__" (232 : Nat) (Value.builtin ("_frozen_importlib.ModuleSpec.__eq__#opaque")), kE P "cached" (233 : Nat) (Value.builtin ("_frozen_importlib.ModuleSpec.cached#opaque")), kE P "parent" (234 : Nat) (Value.builtin ("_frozen_importlib.ModuleSpec.parent#opaque")), kE P "has_location" (235 : Nat) (Value.builtin ("_frozen_importlib.ModuleSpec.has_location#opaque")), kE P "__static_attributes__" (236 : Nat) (Value.ref ((23 : Nat))), kE P "__dict__" (238 : Nat) (Value.ref ((24 : Nat))), kE P "__weakref__" (240 : Nat) (Value.ref ((25 : Nat))), kE P "__hash__" (241 : Nat) (Value.none)]) ((13 : Nat))) (#[])
noncomputable def o21K (P : Params) : Obj := Obj.mk (Value.type ("type")) (@Option.none Nat) (Data.cls (ClassData.mk (Str.ofString ("ModuleSpec")) ([Value.type ("object")]) ([Value.ref ((22 : Nat)), Value.type ("object")]) ((21 : Nat)) (Str.ofString ("ModuleSpec")) (Bool.true) ([]) ([]) (Bool.false) (Option.none) (Bool.false))) (#[])
noncomputable def o22K (P : Params) : Obj := Obj.mk (Value.type ("tuple")) (@Option.none Nat) (Data.seq (#[Value.str (Str.ofString ("_cached")) ((219 : Nat)), Value.str (Str.ofString ("_set_fileattr")) ((220 : Nat)), Value.str (Str.ofString ("_uninitialized_submodules")) ((221 : Nat)), Value.str (Str.ofString ("loader")) ((222 : Nat)), Value.str (Str.ofString ("loader_state")) ((223 : Nat)), Value.str (Str.ofString ("name")) ((224 : Nat)), Value.str (Str.ofString ("origin")) ((225 : Nat)), Value.str (Str.ofString ("submodule_search_locations")) ((226 : Nat))]) ((0 : Nat))) (#[])
noncomputable def o23K (P : Params) : Obj := Obj.mk (Value.type ("getset_descriptor")) (@Option.none Nat) (Data.fields (#[Value.str (Str.ofString ("__dict__")) ((237 : Nat)), Value.ref ((22 : Nat)), Value.builtin ("function.__dict__"), Value.builtin ("function.__dict__#set")])) (#[])
noncomputable def o24K (P : Params) : Obj := Obj.mk (Value.type ("getset_descriptor")) (@Option.none Nat) (Data.fields (#[Value.str (Str.ofString ("__weakref__")) ((239 : Nat)), Value.ref ((22 : Nat)), Value.builtin ("ExceptionGroup.__weakref__"), Value.none])) (#[])
noncomputable def o25K (P : Params) : Obj := Obj.mk (Value.ref ((22 : Nat))) (Option.some ((20 : Nat))) (Data.plain) (#[])
noncomputable def o26K (P : Params) : Obj := Obj.mk (Value.none) (@Option.none Nat) (Data.seq (#[Value.int (11) ((0 : Nat)), Value.str (Str.mk ((List.toArray (((6 : Nat)) :: ((247 : Nat)) :: ((8 : Nat)) :: ((95 : Nat)) :: ((95 : Nat)) :: ((110 : Nat)) :: ((97 : Nat)) :: ((109 : Nat)) :: ((101 : Nat)) :: ((95 : Nat)) :: ((95 : Nat)) :: ((6 : Nat)) :: ((246 : Nat)) :: ((4 : Nat)) :: ((95 : Nat)) :: ((115 : Nat)) :: ((114 : Nat)) :: ((101 : Nat)) :: ((6 : Nat)) :: ((248 : Nat)) :: ((7 : Nat)) :: ((95 : Nat)) :: ((95 : Nat)) :: ((100 : Nat)) :: ((111 : Nat)) :: ((99 : Nat)) :: ((95 : Nat)) :: ((95 : Nat)) :: ((0 : Nat)) :: ((6 : Nat)) :: ((250 : Nat)) :: ((11 : Nat)) :: ((95 : Nat)) :: ((95 : Nat)) :: ((112 : Nat)) :: ((97 : Nat)) :: ((99 : Nat)) :: ((107 : Nat)) :: ((97 : Nat)) :: ((103 : Nat)) :: ((101 : Nat)) :: ((95 : Nat)) :: ((95 : Nat)) :: ((6 : Nat)) :: ((249 : Nat)) :: ((0 : Nat)) :: ((6 : Nat)) :: ((251 : Nat)) :: ((10 : Nat)) :: ((95 : Nat)) :: ((95 : Nat)) :: ((108 : Nat)) :: ((111 : Nat)) :: ((97 : Nat)) :: ((100 : Nat)) :: ((101 : Nat)) :: ((114 : Nat)) :: ((95 : Nat)) :: ((95 : Nat)) :: ((4 : Nat)) :: ((0 : Nat)) :: ((0 : Nat)) :: ((14 : Nat)) :: ((6 : Nat)) :: ((252 : Nat)) :: ((8 : Nat)) :: ((95 : Nat)) :: ((95 : Nat)) :: ((115 : Nat)) :: ((112 : Nat)) :: ((101 : Nat)) :: ((99 : Nat)) :: ((95 : Nat)) :: ((95 : Nat)) :: ((4 : Nat)) :: ((0 : Nat)) :: ((0 : Nat)) :: ((26 : Nat)) :: ((6 : Nat)) :: ((253 : Nat)) :: ((7 : Nat)) :: ((99 : Nat)) :: ((111 : Nat)) :: ((109 : Nat)) :: ((112 : Nat)) :: ((105 : Nat)) :: ((108 : Nat)) :: ((101 : Nat)) :: ((9 : Nat)) :: ((12 : Nat)) :: ((95 : Nat)) :: ((115 : Nat)) :: ((114 : Nat)) :: ((101 : Nat)) :: ((46 : Nat)) :: ((99 : Nat)) :: ((111 : Nat)) :: ((109 : Nat)) :: ((112 : Nat)) :: ((105 : Nat)) :: ((108 : Nat)) :: ((101 : Nat)) :: ((6 : Nat)) :: ((254 : Nat)) :: ((8 : Nat)) :: ((116 : Nat)) :: ((101 : Nat)) :: ((109 : Nat)) :: ((112 : Nat)) :: ((108 : Nat)) :: ((97 : Nat)) :: ((116 : Nat)) :: ((101 : Nat)) :: ((9 : Nat)) :: ((13 : Nat)) :: ((95 : Nat)) :: ((115 : Nat)) :: ((114 : Nat)) :: ((101 : Nat)) :: ((46 : Nat)) :: ((116 : Nat)) :: ((101 : Nat)) :: ((109 : Nat)) :: ((112 : Nat)) :: ((108 : Nat)) :: ((97 : Nat)) :: ((116 : Nat)) :: ((101 : Nat)) :: ((6 : Nat)) :: ((255 : Nat)) :: ((11 : Nat)) :: ((103 : Nat)) :: ((101 : Nat)) :: ((116 : Nat)) :: ((99 : Nat)) :: ((111 : Nat)) :: ((100 : Nat)) :: ((101 : Nat)) :: ((115 : Nat)) :: ((105 : Nat)) :: ((122 : Nat)) :: ((101 : Nat)) :: ((9 : Nat)) :: ((16 : Nat)) :: ((95 : Nat)) :: ((115 : Nat)) :: ((114 : Nat)) :: ((101 : Nat)) :: ((46 : Nat)) :: ((103 : Nat)) :: ((101 : Nat)) :: ((116 : Nat)) :: ((99 : Nat)) :: ((111 : Nat)) :: ((100 : Nat)) :: ((101 : Nat)) :: ((115 : Nat)) :: ((105 : Nat)) :: ((122 : Nat)) :: ((101 : Nat)) :: ((6 : Nat)) :: ((256 : Nat)) :: ((13 : Nat)) :: ((97 : Nat)) :: ((115 : Nat)) :: ((99 : Nat)) :: ((105 : Nat)) :: ((105 : Nat)) :: ((95 : Nat)) :: ((105 : Nat)) :: ((115 : Nat)) :: ((99 : Nat)) :: ((97 : Nat)) :: ((115 : Nat)) :: ((101 : Nat)) :: ((100 : Nat)) :: ((9 : Nat)) :: ((18 : Nat)) :: ((95 : Nat)) :: ((115 : Nat)) :: ((114 : Nat)) :: ((101 : Nat)) :: ((46 : Nat)) :: ((97 : Nat)) :: ((115 : Nat)) :: ((99 : Nat)) :: ((105 : Nat)) :: ((105 : Nat)) :: ((95 : Nat)) :: ((105 : Nat)) :: ((115 : Nat)) :: ((99 : Nat)) :: ((97 : Nat)) :: ((115 : Nat)) :: ((101 : Nat)) :: ((100 : Nat)) :: ((6 : Nat)) :: ((257 : Nat)) :: ((15 : Nat)) :: ((117 : Nat)) :: ((110 : Nat)) :: ((105 : Nat)) :: ((99 : Nat)) :: ((111 : Nat)) :: ((100 : Nat)) :: ((101 : Nat)) :: ((95 : Nat)) :: ((105 : Nat)) :: ((115 : Nat)) :: ((99 : Nat)) :: ((97 : Nat)) :: ((115 : Nat)) :: ((101 : Nat)) :: ((100 : Nat)) :: ((9 : Nat)) :: ((20 : Nat)) :: ((95 : Nat)) :: ((115 : Nat)) :: ((114 : Nat)) :: ((101 : Nat)) :: ((46 : Nat)) :: ((117 : Nat)) :: ((110 : Nat)) :: ((105 : Nat)) :: ((99 : Nat)) :: ((111 : Nat)) :: ((100 : Nat)) :: ((101 : Nat)) :: ((95 : Nat)) :: ((105 : Nat)) :: ((115 : Nat)) :: ((99 : Nat)) :: ((97 : Nat)) :: ((115 : Nat)) :: ((101 : Nat)) :: ((100 : Nat)) :: ((6 : Nat)) :: ((258 : Nat)) :: ((13 : Nat)) :: ((97 : Nat)) :: ((115 : Nat)) :: ((99 : Nat)) :: ((105 : Nat)) :: ((105 : Nat)) :: ((95 : Nat)) :: ((116 : Nat)) :: ((111 : Nat)) :: ((108 : Nat)) :: ((111 : Nat)) :: ((119 : Nat)) :: ((101 : Nat)) :: ((114 : Nat)) :: ((9 : Nat)) :: ((18 : Nat)) :: ((95 : Nat)) :: ((115 : Nat)) :: ((114 : Nat)) :: ((101 : Nat)) :: ((46 : Nat)) :: ((97 : Nat)) :: ((115 : Nat)) :: ((99 : Nat)) :: ((105 : Nat)) :: ((105 : Nat)) :: ((95 : Nat)) :: ((116 : Nat)) :: ((111 : Nat)) :: ((108 : Nat)) :: ((111 : Nat)) :: ((119 : Nat)) :: ((101 : Nat)) :: ((114 : Nat)) :: ((6 : Nat)) :: ((259 : Nat)) :: ((15 : Nat)) :: ((117 : Nat)) :: ((110 : Nat)) :: ((105 : Nat)) :: ((99 : Nat)) :: ((111 : Nat)) :: ((100 : Nat)) :: ((101 : Nat)) :: ((95 : Nat)) :: ((116 : Nat)) :: ((111 : Nat)) :: ((108 : Nat)) :: ((111 : Nat)) :: ((119 : Nat)) :: ((101 : Nat)) :: ((114 : Nat)) :: ((9 : Nat)) :: ((20 : Nat)) :: ((95 : Nat)) :: ((115 : Nat)) :: ((114 : Nat)) :: ((101 : Nat)) :: ((46 : Nat)) :: ((117 : Nat)) :: ((110 : Nat)) :: ((105 : Nat)) :: ((99 : Nat)) :: ((111 : Nat)) :: ((100 : Nat)) :: ((101 : Nat)) :: ((95 : Nat)) :: ((116 : Nat)) :: ((111 : Nat)) :: ((108 : Nat)) :: ((111 : Nat)) :: ((119 : Nat)) :: ((101 : Nat)) :: ((114 : Nat)) :: ((6 : Nat)) :: ((261 : Nat)) :: ((5 : Nat)) :: ((77 : Nat)) :: ((65 : Nat)) :: ((71 : Nat)) :: ((73 : Nat)) :: ((67 : Nat)) :: ((4 : Nat)) :: ((260 : Nat)) :: ((0 : Nat)) :: ((20230612 : Nat)) :: ((6 : Nat)) :: ((263 : Nat)) :: ((8 : Nat)) :: ((67 : Nat)) :: ((79 : Nat)) :: ((68 : Nat)) :: ((69 : Nat)) :: ((83 : Nat)) :: ((73 : Nat)) :: ((90 : Nat)) :: ((69 : Nat)) :: ((4 : Nat)) :: ((262 : Nat)) :: ((0 : Nat)) :: ((4 : Nat)) :: ((6 : Nat)) :: ((265 : Nat)) :: ((9 : Nat)) :: ((77 : Nat)) :: ((65 : Nat)) :: ((88 : Nat)) :: ((82 : Nat)) :: ((69 : Nat)) :: ((80 : Nat)) :: ((69 : Nat)) :: ((65 : Nat)) :: ((84 : Nat)) :: ((4 : Nat)) :: ((264 : Nat)) :: ((0 : Nat)) :: ((4294967295 : Nat)) :: ((6 : Nat)) :: ((267 : Nat)) :: ((9 : Nat)) :: ((77 : Nat)) :: ((65 : Nat)) :: ((88 : Nat)) :: ((71 : Nat)) :: ((82 : Nat)) :: ((79 : Nat)) :: ((85 : Nat)) :: ((80 : Nat)) :: ((83 : Nat)) :: ((4 : Nat)) :: ((266 : Nat)) :: ((0 : Nat)) :: ((1073741823 : Nat)) :: ((6 : Nat)) :: ((269 : Nat)) :: ((9 : Nat)) :: ((99 : Nat)) :: ((111 : Nat)) :: ((112 : Nat)) :: ((121 : Nat)) :: ((114 : Nat)) :: ((105 : Nat)) :: ((103 : Nat)) :: ((104 : Nat)) :: ((116 : Nat)) :: ((6 : Nat)) :: ((268 : Nat)) :: ((53 : Nat)) :: ((32 : Nat)) :: ((83 : Nat)) :: ((82 : Nat)) :: ((69 : Nat)) :: ((32 : Nat)) :: ((50 : Nat)) :: ((46 : Nat)) :: ((50 : Nat)) :: ((46 : Nat)) :: ((50 : Nat)) :: ((32 : Nat)) :: ((67 : Nat)) :: ((111 : Nat)) :: ((112 : Nat)) :: ((121 : Nat)) :: ((114 : Nat)) :: ((105 : Nat)) :: ((103 : Nat)) :: ((104 : Nat)) :: ((116 : Nat)) :: ((32 : Nat)) :: ((40 : Nat)) :: ((99 : Nat)) :: ((41 : Nat)) :: ((32 : Nat)) :: ((49 : Nat)) :: ((57 : Nat)) :: ((57 : Nat)) :: ((55 : Nat)) :: ((45 : Nat)) :: ((50 : Nat)) :: ((48 : Nat)) :: ((48 : Nat)) :: ((50 : Nat)) :: ((32 : Nat)) :: ((98 : Nat)) :: ((121 : Nat)) :: ((32 : Nat)) :: ((83 : Nat)) :: ((101 : Nat)) :: ((99 : Nat)) :: ((114 : Nat)) :: ((101 : Nat)) :: ((116 : Nat)) :: ((32 : Nat)) :: ((76 : Nat)) :: ((97 : Nat)) :: ((98 : Nat)) :: ((115 : Nat)) :: ((32 : Nat)) :: ((65 : Nat)) :: ((66 : Nat)) :: ((32 : Nat)) :: [])))) ((0 : Nat)), Value.bool (Bool.true), Value.bool (Bool.false), Value.str (Str.ofString ("_sre")) ((271 : Nat))]) ((0 : Nat))) (#[])
noncomputable def o27K (P : Params) : Obj := Obj.mk (Value.type ("dict")) (@Option.none Nat) (Data.dict ((List.toArray ((kE P "__name__" (247 : Nat) (Value.str (Str.ofString ("_sre")) ((246 : Nat)))) :: (kE P "__doc__" (248 : Nat) (Value.none)) :: (kE P "__package__" (250 : Nat) (Value.str (Str.ofString ("")) ((249 : Nat)))) :: (kE P "__loader__" (251 : Nat) (Value.builtin ("off-the-table:_sre.__loader__:shared#opaque"))) :: (kE P "__spec__" (252 : Nat) (Value.builtin ("off-the-table:_sre.__spec__:shared#opaque"))) :: (kE P "compile" (253 : Nat) (Value.builtin ("_sre.compile"))) :: (kE P "template" (254 : Nat) (Value.builtin ("off-the-table:_sre.template:shared#opaque"))) :: (kE P "getcodesize" (255 : Nat) (Value.builtin ("off-the-table:_sre.getcodesize:shared#opaque"))) :: (kE P "ascii_iscased" (256 : Nat) (Value.builtin ("off-the-table:_sre.ascii_iscased:shared#opaque"))) :: (kE P "unicode_iscased" (257 : Nat) (Value.builtin ("off-the-table:_sre.unicode_iscased:shared#opaque"))) :: (kE P "ascii_tolower" (258 : Nat) (Value.builtin ("off-the-table:_sre.ascii_tolower:shared#opaque"))) :: (kE P "unicode_tolower" (259 : Nat) (Value.builtin ("off-the-table:_sre.unicode_tolower:shared#opaque"))) :: (kE P "MAGIC" (261 : Nat) (Value.int (20230612) ((260 : Nat)))) :: (kE P "CODESIZE" (263 : Nat) (Value.int (4) ((262 : Nat)))) :: (kE P "MAXREPEAT" (265 : Nat) (Value.int (4294967295) ((264 : Nat)))) :: (kE P "MAXGROUPS" (267 : Nat) (Value.int (1073741823) ((266 : Nat)))) :: (kE P "copyright" (269 : Nat) (Value.str (Str.ofString (" SRE 2.2.2 Copyright (c) 1997-2002 by Secret Labs AB ")) ((268 : Nat)))) :: []))) ((17 : Nat))) (#[])
noncomputable def o28K (P : Params) : Obj := Obj.mk (Value.type ("code")) (@Option.none Nat) (Data.fields ((List.toArray ((Value.str (Str.ofString ("<module>")) ((277 : Nat))) :: (Value.str (Str.ofString ("<module>")) ((278 : Nat))) :: (Value.str (Str.ofString ("/claim/cut.py")) ((279 : Nat))) :: (Value.int (1) ((0 : Nat))) :: (Value.int (0) ((0 : Nat))) :: (Value.int (0) ((0 : Nat))) :: (Value.int (0) ((0 : Nat))) :: (Value.int (0) ((0 : Nat))) :: (Value.ref ((28 : Nat))) :: (Value.bool (Bool.false)) :: (Value.int (276) ((0 : Nat))) :: (Value.ref ((29 : Nat))) :: (Value.none) :: (Value.none) :: (Value.none) :: (Value.none) :: (Value.int (280) ((0 : Nat))) :: (Value.int (1) ((0 : Nat))) :: (Value.str (Str.ofString ("/claim/cut.py")) ((281 : Nat))) :: [])))) (#[])
noncomputable def o29K (P : Params) : Obj := Obj.mk (Value.type ("frame")) (@Option.none Nat) (Data.plain) (#[Option.some (Value.ref ((30 : Nat))), Option.some (Value.ref ((3 : Nat))), Option.some (Value.ref ((3 : Nat))), Option.none, Option.some (Value.str (Str.ofString ("__main__")) ((164 : Nat))), Option.none, Option.some (Value.ref ((0 : Nat)))])
noncomputable def o30K (P : Params) : Obj := Obj.mk (Value.none) (@Option.none Nat) (Data.dict (#[kE P "\x69mport.loaded._sre" (183 : Nat) (Value.bool (Bool.true)), kE P "class._frozen_importlib.BuiltinImporter" (185 : Nat) (Value.ref ((14 : Nat))), kE P "watched.\x69mport" (206 : Nat) (Value.ref ((18 : Nat))), kE P "class._frozen_importlib.ModuleSpec" (216 : Nat) (Value.ref ((22 : Nat))), kE P "sys.modules.booked-epoch" (245 : Nat) (Value.int (3) ((0 : Nat))), kE P "\x69mport.later-laid._sre" (270 : Nat) (Value.bool (Bool.true)), kE P "watched.library" (272 : Nat) (Value.ref ((27 : Nat))), kE P "watched.library-objects" (0 : Nat) (Value.str (Str.ofString ("\x0c")) ((0 : Nat))), kE P "watched.library-deep._sre" (273 : Nat) (Value.str (Str.ofString ("\x04\x00\x00\x0b\x04\x00\x00\x0b\x04\x00\x00\x03\x04\x00\x00\x0b\x08\x04dict\x02")) ((0 : Nat))), kE P "type.__subclasses__.Exception.0" (336 : Nat) (Value.int (66) ((0 : Nat))), kE P "type.__subclasses__.Exception.n" (337 : Nat) (Value.int (1) ((0 : Nat)))]) ((11 : Nat))) (#[])
noncomputable def o31K (P : Params) : Obj := Obj.mk (Value.type ("dict")) (@Option.none Nat) (Data.dict (#[kE P "__name__" (165 : Nat) (Value.str (Str.ofString ("cpy313.ftplib")) ((318 : Nat))), kE P "__doc__" (166 : Nat) (Value.none), kE P "__package__" (167 : Nat) (Value.none), kE P "__loader__" (168 : Nat) (Value.builtin ("__main__.__loader__#opaque")), kE P "__spec__" (169 : Nat) (Value.none), kE P "__annotations__" (170 : Nat) (Value.ref ((6 : Nat))), kE P "__builtins__" (171 : Nat) (Value.ref ((4 : Nat))), kE P "__file__" (173 : Nat) (Value.str (Str.ofString ("/claim/cut.py")) ((172 : Nat))), kE P "__cached__" (174 : Nat) (Value.none), kE P "_sre" (275 : Nat) (Value.ref ((12 : Nat))), kE P "_wall" (288 : Nat) (Value.ref ((38 : Nat))), kE P "insort_right" (303 : Nat) (Value.ref ((47 : Nat))), kE P "bisect_right" (317 : Nat) (Value.ref ((56 : Nat))), kE P "Error" (339 : Nat) (Value.ref ((66 : Nat)))]) ((14 : Nat))) (#[])
noncomputable def o32K (P : Params) : Obj := Obj.mk (Value.none) (@Option.none Nat) (Data.fields (#[Value.int (2) ((0 : Nat)), Value.int (0) ((0 : Nat)), Value.ref ((37 : Nat)), Value.int (6) ((0 : Nat)), Value.int (0) ((0 : Nat)), Value.ref ((46 : Nat)), Value.int (12) ((0 : Nat)), Value.int (0) ((0 : Nat)), Value.ref ((55 : Nat)), Value.int (33) ((0 : Nat)), Value.int (0) ((0 : Nat)), Value.ref ((62 : Nat))])) (#[])
noncomputable def o33K (P : Params) : Obj := Obj.mk (Value.type ("tuple")) (@Option.none Nat) (Data.seq (#[Value.str (Str.ofString ("k")) ((285 : Nat))]) ((0 : Nat))) (#[])
noncomputable def o34K (P : Params) : Obj := Obj.mk (Value.none) (@Option.none Nat) (Data.func (FuncData.mk (Str.ofString ("_wall")) (Str.ofString ("_wall")) f1p (FuncBody.stmts f1b) f1s ((0 : Nat)) (@List.nil (Str × Nat)) (Value.none) (Value.none) (Value.none) (Value.none) (@Option.none Nat) (Value.none) (Value.none) ((0 : Nat)))) (#[])
noncomputable def o35K (P : Params) : Obj := Obj.mk (Value.type ("code")) (@Option.none Nat) (Data.fields ((List.toArray ((Value.str (Str.ofString ("_wall")) ((282 : Nat))) :: (Value.str (Str.ofString ("_wall")) ((283 : Nat))) :: (Value.str (Str.ofString ("/claim/cut.py")) ((284 : Nat))) :: (Value.int (2) ((0 : Nat))) :: (Value.int (1) ((0 : Nat))) :: (Value.int (0) ((0 : Nat))) :: (Value.int (0) ((0 : Nat))) :: (Value.int (3) ((0 : Nat))) :: (Value.ref ((32 : Nat))) :: (Value.bool (Bool.true)) :: (Value.int (276) ((0 : Nat))) :: (Value.ref ((33 : Nat))) :: (Value.none) :: (Value.ref ((34 : Nat))) :: (Value.ref ((35 : Nat))) :: (Value.ref ((36 : Nat))) :: (Value.int (286) ((0 : Nat))) :: (Value.int (2) ((0 : Nat))) :: (Value.str (Str.ofString ("/claim/cut.py")) ((287 : Nat))) :: [])))) (#[])
noncomputable def o36K (P : Params) : Obj := Obj.mk (Value.type ("function")) (@Option.none Nat) (Data.func (FuncData.mk (Str.ofString ("_wall")) (Str.ofString ("_wall")) f1p (FuncBody.stmts f1b) f1s ((3 : Nat)) (@List.nil (Str × Nat)) (Value.none) (Value.none) (Value.none) (Value.str (Str.ofString ("__main__")) ((164 : Nat))) (@Option.none Nat) (Value.ref ((37 : Nat))) (Value.none) ((0 : Nat)))) (#[])
noncomputable def o37K (P : Params) : Obj := Obj.mk (Value.type ("tuple")) (@Option.none Nat) (Data.seq (#[Value.int (0) ((291 : Nat)), Value.none]) ((0 : Nat))) (#[])
noncomputable def o38K (P : Params) : Obj := Obj.mk (Value.type ("dict")) (@Option.none Nat) (Data.dict (#[kE P "key" (292 : Nat) (Value.none)]) ((1 : Nat))) (#[])
noncomputable def o39K (P : Params) : Obj := Obj.mk (Value.type ("tuple")) (@Option.none Nat) (Data.seq (#[Value.str (Str.ofString ("a")) ((296 : Nat)), Value.str (Str.ofString ("x")) ((297 : Nat)), Value.str (Str.ofString ("lo")) ((298 : Nat)), Value.str (Str.ofString ("hi")) ((299 : Nat)), Value.str (Str.ofString ("key")) ((300 : Nat))]) ((0 : Nat))) (#[])
noncomputable def o40K (P : Params) : Obj := Obj.mk (Value.none) (@Option.none Nat) (Data.func (FuncData.mk (Str.ofString ("insort_right")) (Str.ofString ("insort_right")) f3p (FuncBody.stmts f3b) f3s ((0 : Nat)) (@List.nil (Str × Nat)) (Value.none) (Value.none) (Value.none) (Value.none) (@Option.none Nat) (Value.none) (Value.none) ((0 : Nat)))) (#[])
noncomputable def o41K (P : Params) : Obj := Obj.mk (Value.type ("code")) (@Option.none Nat) (Data.fields ((List.toArray ((Value.str (Str.ofString ("insort_right")) ((293 : Nat))) :: (Value.str (Str.ofString ("insort_right")) ((294 : Nat))) :: (Value.str (Str.ofString ("/claim/cut.py")) ((295 : Nat))) :: (Value.int (6) ((0 : Nat))) :: (Value.int (4) ((0 : Nat))) :: (Value.int (0) ((0 : Nat))) :: (Value.int (1) ((0 : Nat))) :: (Value.int (3) ((0 : Nat))) :: (Value.ref ((41 : Nat))) :: (Value.bool (Bool.true)) :: (Value.int (276) ((0 : Nat))) :: (Value.ref ((42 : Nat))) :: (Value.none) :: (Value.ref ((43 : Nat))) :: (Value.ref ((44 : Nat))) :: (Value.ref ((45 : Nat))) :: (Value.int (301) ((0 : Nat))) :: (Value.int (6) ((0 : Nat))) :: (Value.str (Str.ofString ("/claim/cut.py")) ((302 : Nat))) :: [])))) (#[])
noncomputable def o42K (P : Params) : Obj := Obj.mk (Value.type ("function")) (@Option.none Nat) (Data.func (FuncData.mk (Str.ofString ("insort_right")) (Str.ofString ("insort_right")) f3p (FuncBody.stmts f3b) f3s ((3 : Nat)) (@List.nil (Str × Nat)) (Value.ref ((39 : Nat))) (Value.ref ((40 : Nat))) (Value.none) (Value.str (Str.ofString ("cpy313.bisect")) ((289 : Nat))) (@Option.none Nat) (Value.ref ((46 : Nat))) (Value.none) ((0 : Nat)))) (#[])
noncomputable def o43K (P : Params) : Obj := Obj.mk (Value.type ("tuple")) (@Option.none Nat) (Data.seq (#[Value.int (0) ((304 : Nat)), Value.none]) ((0 : Nat))) (#[])
noncomputable def o44K (P : Params) : Obj := Obj.mk (Value.type ("dict")) (@Option.none Nat) (Data.dict (#[kE P "key" (305 : Nat) (Value.none)]) ((1 : Nat))) (#[])
noncomputable def o45K (P : Params) : Obj := Obj.mk (Value.type ("tuple")) (@Option.none Nat) (Data.seq (#[Value.str (Str.ofString ("a")) ((309 : Nat)), Value.str (Str.ofString ("x")) ((310 : Nat)), Value.str (Str.ofString ("lo")) ((311 : Nat)), Value.str (Str.ofString ("hi")) ((312 : Nat)), Value.str (Str.ofString ("key")) ((313 : Nat)), Value.str (Str.ofString ("mid")) ((314 : Nat))]) ((0 : Nat))) (#[])
noncomputable def o46K (P : Params) : Obj := Obj.mk (Value.none) (@Option.none Nat) (Data.func (FuncData.mk (Str.ofString ("bisect_right")) (Str.ofString ("bisect_right")) f4p (FuncBody.stmts f4b) f4s ((0 : Nat)) (@List.nil (Str × Nat)) (Value.none) (Value.none) (Value.none) (Value.none) (@Option.none Nat) (Value.none) (Value.none) ((0 : Nat)))) (#[])
noncomputable def o47K (P : Params) : Obj := Obj.mk (Value.type ("code")) (@Option.none Nat) (Data.fields ((List.toArray ((Value.str (Str.ofString ("bisect_right")) ((306 : Nat))) :: (Value.str (Str.ofString ("bisect_right")) ((307 : Nat))) :: (Value.str (Str.ofString ("/claim/cut.py")) ((308 : Nat))) :: (Value.int (12) ((0 : Nat))) :: (Value.int (4) ((0 : Nat))) :: (Value.int (0) ((0 : Nat))) :: (Value.int (1) ((0 : Nat))) :: (Value.int (3) ((0 : Nat))) :: (Value.ref ((50 : Nat))) :: (Value.bool (Bool.true)) :: (Value.int (276) ((0 : Nat))) :: (Value.ref ((51 : Nat))) :: (Value.none) :: (Value.ref ((52 : Nat))) :: (Value.ref ((53 : Nat))) :: (Value.ref ((54 : Nat))) :: (Value.int (315) ((0 : Nat))) :: (Value.int (12) ((0 : Nat))) :: (Value.str (Str.ofString ("/claim/cut.py")) ((316 : Nat))) :: [])))) (#[])
noncomputable def o48K (P : Params) : Obj := Obj.mk (Value.type ("function")) (@Option.none Nat) (Data.func (FuncData.mk (Str.ofString ("bisect_right")) (Str.ofString ("bisect_right")) f4p (FuncBody.stmts f4b) f4s ((3 : Nat)) (@List.nil (Str × Nat)) (Value.ref ((48 : Nat))) (Value.ref ((49 : Nat))) (Value.none) (Value.str (Str.ofString ("cpy313.bisect")) ((289 : Nat))) (@Option.none Nat) (Value.ref ((55 : Nat))) (Value.none) ((0 : Nat)))) (#[])
noncomputable def o49K (P : Params) : Obj := Obj.mk (Value.type ("tuple")) (@Option.none Nat) (Data.seq (#[Value.type ("Exception")]) ((0 : Nat))) (#[])
noncomputable def o50K (P : Params) : Obj := Obj.mk (Value.type ("builtin_function_or_method")) (@Option.none Nat) (Data.fields (#[Value.builtin ("type.__prepare__"), Value.type ("type")])) (#[])
noncomputable def o51K (P : Params) : Obj := Obj.mk (Value.type ("dict")) (@Option.none Nat) (Data.dict (#[kE P "__module__" (327 : Nat) (Value.str (Str.ofString ("cpy313.ftplib")) ((318 : Nat))), kE P "__qualname__" (329 : Nat) (Value.str (Str.ofString ("Error")) ((328 : Nat))), kE P "__firstlineno__" (331 : Nat) (Value.int (33) ((330 : Nat))), kE P "__static_attributes__" (332 : Nat) (Value.ref ((64 : Nat)))]) ((4 : Nat))) (#[])
noncomputable def o52K (P : Params) : Obj := Obj.mk (Value.type ("code")) (@Option.none Nat) (Data.fields ((List.toArray ((Value.str (Str.ofString ("Error")) ((322 : Nat))) :: (Value.str (Str.ofString ("Error")) ((323 : Nat))) :: (Value.str (Str.ofString ("/claim/cut.py")) ((324 : Nat))) :: (Value.int (33) ((0 : Nat))) :: (Value.int (0) ((0 : Nat))) :: (Value.int (0) ((0 : Nat))) :: (Value.int (0) ((0 : Nat))) :: (Value.int (0) ((0 : Nat))) :: (Value.ref ((60 : Nat))) :: (Value.bool (Bool.false)) :: (Value.int (276) ((0 : Nat))) :: (Value.ref ((61 : Nat))) :: (Value.none) :: (Value.none) :: (Value.none) :: (Value.none) :: (Value.int (325) ((0 : Nat))) :: (Value.int (33) ((0 : Nat))) :: (Value.str (Str.ofString ("/claim/cut.py")) ((326 : Nat))) :: [])))) (#[])
noncomputable def o53K (P : Params) : Obj := Obj.mk (Value.type ("frame")) (@Option.none Nat) (Data.plain) (#[Option.some (Value.ref ((62 : Nat))), Option.some (Value.ref ((3 : Nat))), Option.some (Value.ref ((59 : Nat))), Option.none, Option.some (Value.str (Str.ofString ("cpy313.ftplib")) ((318 : Nat))), Option.none, Option.some (Value.ref ((0 : Nat)))])
noncomputable def o54K (P : Params) : Obj := Obj.mk (Value.type ("dict")) (@Option.none Nat) (Data.dict (#[kE P "__module__" (327 : Nat) (Value.str (Str.ofString ("cpy313.ftplib")) ((318 : Nat))), kE P "__firstlineno__" (331 : Nat) (Value.int (33) ((330 : Nat))), kE P "__static_attributes__" (332 : Nat) (Value.ref ((64 : Nat))), kE P "__weakref__" (334 : Nat) (Value.ref ((67 : Nat))), kE P "__doc__" (335 : Nat) (Value.none)]) ((3 : Nat))) (#[])
noncomputable def o55K (P : Params) : Obj := Obj.mk (Value.type ("type")) (@Option.none Nat) (Data.cls (ClassData.mk (Str.ofString ("Error")) ([Value.type ("Exception")]) ([Value.ref ((66 : Nat)), Value.type ("Exception"), Value.type ("BaseException"), Value.type ("object")]) ((65 : Nat)) (Str.ofString ("Error")) (Bool.true) ([]) ([]) (Bool.false) (Option.none) (Bool.false))) (#[Option.some (Value.ref ((57 : Nat))), Option.none, Option.some (Value.str (Str.ofString ("Error")) ((320 : Nat))), Option.some (Value.str (Str.ofString ("Error")) ((328 : Nat))), Option.some (Value.builtin ("Exception.__new__")), Option.some (Value.bool (Bool.true))])
noncomputable def o56K (P : Params) : Obj := Obj.mk (Value.type ("getset_descriptor")) (@Option.none Nat) (Data.fields (#[Value.str (Str.ofString ("__weakref__")) ((333 : Nat)), Value.ref ((66 : Nat)), Value.builtin ("ExceptionGroup.__weakref__"), Value.none])) (#[])
noncomputable def o57K (P : Params) : Obj := Obj.mk (Value.type ("super")) (@Option.none Nat) (Data.fields (#[Value.ref ((66 : Nat)), Value.ref ((66 : Nat)), Value.ref ((66 : Nat))])) (#[])
noncomputable def o58K (P : Params) : Obj := Obj.mk (Value.type ("builtin_function_or_method")) (@Option.none Nat) (Data.fields (#[Value.builtin ("object.__init_subclass__"), Value.ref ((66 : Nat))])) (#[])
noncomputable def o59K (P : Params) : Obj := Obj.mk (Value.type ("dict")) (@Option.none Nat) (Data.dict ((List.toArray ((kE P "__name__" (165 : Nat) (Value.str (Str.ofString ("cpy313.wsgiref.headers")) ((367 : Nat)))) :: (kE P "__doc__" (166 : Nat) (Value.none)) :: (kE P "__package__" (167 : Nat) (Value.none)) :: (kE P "__loader__" (168 : Nat) (Value.builtin ("__main__.__loader__#opaque"))) :: (kE P "__spec__" (169 : Nat) (Value.none)) :: (kE P "__annotations__" (170 : Nat) (Value.ref ((6 : Nat)))) :: (kE P "__builtins__" (171 : Nat) (Value.ref ((4 : Nat)))) :: (kE P "__file__" (173 : Nat) (Value.str (Str.ofString ("/claim/cut.py")) ((172 : Nat)))) :: (kE P "__cached__" (174 : Nat) (Value.none)) :: (kE P "_sre" (275 : Nat) (Value.ref ((12 : Nat)))) :: (kE P "_wall" (288 : Nat) (Value.ref ((38 : Nat)))) :: (kE P "insort_right" (303 : Nat) (Value.ref ((47 : Nat)))) :: (kE P "bisect_right" (317 : Nat) (Value.ref ((56 : Nat)))) :: (kE P "Error" (339 : Nat) (Value.ref ((66 : Nat)))) :: (kE P "error_reply" (355 : Nat) (Value.ref ((79 : Nat)))) :: (kE P "parse257" (366 : Nat) (Value.ref ((88 : Nat)))) :: (kE P "_name_disallowed_re" (394 : Nat) (Value.ref ((93 : Nat)))) :: []))) ((17 : Nat))) (#[])
noncomputable def o60K (P : Params) : Obj := Obj.mk (Value.none) (@Option.none Nat) (Data.fields ((List.toArray ((Value.int (2) ((0 : Nat))) :: (Value.int (0) ((0 : Nat))) :: (Value.ref ((37 : Nat))) :: (Value.int (6) ((0 : Nat))) :: (Value.int (0) ((0 : Nat))) :: (Value.ref ((46 : Nat))) :: (Value.int (12) ((0 : Nat))) :: (Value.int (0) ((0 : Nat))) :: (Value.ref ((55 : Nat))) :: (Value.int (33) ((0 : Nat))) :: (Value.int (0) ((0 : Nat))) :: (Value.ref ((62 : Nat))) :: (Value.int (35) ((0 : Nat))) :: (Value.int (0) ((0 : Nat))) :: (Value.ref ((75 : Nat))) :: (Value.int (37) ((0 : Nat))) :: (Value.int (0) ((0 : Nat))) :: (Value.ref ((87 : Nat))) :: [])))) (#[])
noncomputable def o61K (P : Params) : Obj := Obj.mk (Value.type ("type")) (@Option.none Nat) (Data.cls (ClassData.mk (Str.ofString ("Error")) ([Value.type ("Exception")]) ([Value.ref ((66 : Nat)), Value.type ("Exception"), Value.type ("BaseException"), Value.type ("object")]) ((65 : Nat)) (Str.ofString ("Error")) (Bool.true) ([]) ([Value.ref ((79 : Nat))]) (Bool.false) (Option.none) (Bool.false))) (#[Option.some (Value.ref ((57 : Nat))), Option.none, Option.some (Value.str (Str.ofString ("Error")) ((320 : Nat))), Option.some (Value.str (Str.ofString ("Error")) ((328 : Nat))), Option.some (Value.builtin ("Exception.__new__")), Option.some (Value.bool (Bool.true))])
noncomputable def o62K (P : Params) : Obj := Obj.mk (Value.type ("tuple")) (@Option.none Nat) (Data.seq (#[Value.ref ((66 : Nat))]) ((0 : Nat))) (#[])
noncomputable def o63K (P : Params) : Obj := Obj.mk (Value.type ("dict")) (@Option.none Nat) (Data.dict (#[kE P "__module__" (347 : Nat) (Value.str (Str.ofString ("cpy313.ftplib")) ((318 : Nat))), kE P "__qualname__" (349 : Nat) (Value.str (Str.ofString ("error_reply")) ((348 : Nat))), kE P "__firstlineno__" (351 : Nat) (Value.int (35) ((350 : Nat))), kE P "__static_attributes__" (352 : Nat) (Value.ref ((77 : Nat)))]) ((4 : Nat))) (#[])
noncomputable def o64K (P : Params) : Obj := Obj.mk (Value.type ("code")) (@Option.none Nat) (Data.fields ((List.toArray ((Value.str (Str.ofString ("error_reply")) ((342 : Nat))) :: (Value.str (Str.ofString ("error_reply")) ((343 : Nat))) :: (Value.str (Str.ofString ("/claim/cut.py")) ((344 : Nat))) :: (Value.int (35) ((0 : Nat))) :: (Value.int (0) ((0 : Nat))) :: (Value.int (0) ((0 : Nat))) :: (Value.int (0) ((0 : Nat))) :: (Value.int (0) ((0 : Nat))) :: (Value.ref ((73 : Nat))) :: (Value.bool (Bool.false)) :: (Value.int (276) ((0 : Nat))) :: (Value.ref ((74 : Nat))) :: (Value.none) :: (Value.none) :: (Value.none) :: (Value.none) :: (Value.int (345) ((0 : Nat))) :: (Value.int (35) ((0 : Nat))) :: (Value.str (Str.ofString ("/claim/cut.py")) ((346 : Nat))) :: [])))) (#[])
noncomputable def o65K (P : Params) : Obj := Obj.mk (Value.type ("frame")) (@Option.none Nat) (Data.plain) (#[Option.some (Value.ref ((75 : Nat))), Option.some (Value.ref ((3 : Nat))), Option.some (Value.ref ((72 : Nat))), Option.none, Option.some (Value.str (Str.ofString ("cpy313.ftplib")) ((318 : Nat))), Option.none, Option.some (Value.ref ((0 : Nat)))])
noncomputable def o66K (P : Params) : Obj := Obj.mk (Value.type ("dict")) (@Option.none Nat) (Data.dict (#[kE P "__module__" (347 : Nat) (Value.str (Str.ofString ("cpy313.ftplib")) ((318 : Nat))), kE P "__firstlineno__" (351 : Nat) (Value.int (35) ((350 : Nat))), kE P "__static_attributes__" (352 : Nat) (Value.ref ((77 : Nat))), kE P "__doc__" (353 : Nat) (Value.none)]) ((2 : Nat))) (#[])
noncomputable def o67K (P : Params) : Obj := Obj.mk (Value.type ("type")) (@Option.none Nat) (Data.cls (ClassData.mk (Str.ofString ("error_reply")) ([Value.ref ((66 : Nat))]) ([Value.ref ((79 : Nat)), Value.ref ((66 : Nat)), Value.type ("Exception"), Value.type ("BaseException"), Value.type ("object")]) ((78 : Nat)) (Str.ofString ("error_reply")) (Bool.true) ([]) ([]) (Bool.false) (Option.none) (Bool.false))) (#[Option.some (Value.ref ((70 : Nat))), Option.none, Option.some (Value.str (Str.ofString ("error_reply")) ((340 : Nat))), Option.some (Value.str (Str.ofString ("error_reply")) ((348 : Nat))), Option.some (Value.builtin ("Exception.__new__")), Option.some (Value.bool (Bool.true))])
noncomputable def o68K (P : Params) : Obj := Obj.mk (Value.type ("super")) (@Option.none Nat) (Data.fields (#[Value.ref ((79 : Nat)), Value.ref ((79 : Nat)), Value.ref ((79 : Nat))])) (#[])
noncomputable def o69K (P : Params) : Obj := Obj.mk (Value.type ("builtin_function_or_method")) (@Option.none Nat) (Data.fields (#[Value.builtin ("object.__init_subclass__"), Value.ref ((79 : Nat))])) (#[])
noncomputable def o70K (P : Params) : Obj := Obj.mk (Value.type ("tuple")) (@Option.none Nat) (Data.seq (#[Value.str (Str.ofString ("resp")) ((359 : Nat)), Value.str (Str.ofString ("dirname")) ((360 : Nat)), Value.str (Str.ofString ("i")) ((361 : Nat)), Value.str (Str.ofString ("n")) ((362 : Nat)), Value.str (Str.ofString ("c")) ((363 : Nat))]) ((0 : Nat))) (#[])
noncomputable def o71K (P : Params) : Obj := Obj.mk (Value.none) (@Option.none Nat) (Data.func (FuncData.mk (Str.ofString ("parse257")) (Str.ofString ("parse257")) f8p (FuncBody.stmts f8b) f8s ((0 : Nat)) (@List.nil (Str × Nat)) (Value.none) (Value.none) (Value.none) (Value.none) (@Option.none Nat) (Value.none) (Value.none) ((0 : Nat)))) (#[])
noncomputable def o72K (P : Params) : Obj := Obj.mk (Value.type ("code")) (@Option.none Nat) (Data.fields ((List.toArray ((Value.str (Str.ofString ("parse257")) ((356 : Nat))) :: (Value.str (Str.ofString ("parse257")) ((357 : Nat))) :: (Value.str (Str.ofString ("/claim/cut.py")) ((358 : Nat))) :: (Value.int (37) ((0 : Nat))) :: (Value.int (1) ((0 : Nat))) :: (Value.int (0) ((0 : Nat))) :: (Value.int (0) ((0 : Nat))) :: (Value.int (3) ((0 : Nat))) :: (Value.ref ((82 : Nat))) :: (Value.bool (Bool.true)) :: (Value.int (276) ((0 : Nat))) :: (Value.ref ((83 : Nat))) :: (Value.none) :: (Value.ref ((84 : Nat))) :: (Value.ref ((85 : Nat))) :: (Value.ref ((86 : Nat))) :: (Value.int (364) ((0 : Nat))) :: (Value.int (37) ((0 : Nat))) :: (Value.str (Str.ofString ("/claim/cut.py")) ((365 : Nat))) :: [])))) (#[])
noncomputable def o73K (P : Params) : Obj := Obj.mk (Value.type ("function")) (@Option.none Nat) (Data.func (FuncData.mk (Str.ofString ("parse257")) (Str.ofString ("parse257")) f8p (FuncBody.stmts f8b) f8s ((3 : Nat)) (@List.nil (Str × Nat)) (Value.none) (Value.none) (Value.none) (Value.str (Str.ofString ("cpy313.ftplib")) ((318 : Nat))) (@Option.none Nat) (Value.ref ((87 : Nat))) (Value.none) ((0 : Nat)))) (#[])
noncomputable def o74K (P : Params) : Obj := Obj.mk (Value.type ("list")) (@Option.none Nat) (Data.seq ((List.toArray ((Value.int (14) ((372 : Nat))) :: (Value.int (10) ((373 : Nat))) :: (Value.int (4) ((374 : Nat))) :: (Value.int (1) ((375 : Nat))) :: (Value.int (1) ((376 : Nat))) :: (Value.int (22) ((377 : Nat))) :: (Value.int (0) ((378 : Nat))) :: (Value.int (31) ((379 : Nat))) :: (Value.int (16) ((380 : Nat))) :: (Value.int (127) ((381 : Nat))) :: (Value.int (0) ((382 : Nat))) :: (Value.int (13) ((383 : Nat))) :: (Value.int (7) ((384 : Nat))) :: (Value.int (22) ((385 : Nat))) :: (Value.int (0) ((386 : Nat))) :: (Value.int (31) ((387 : Nat))) :: (Value.int (16) ((388 : Nat))) :: (Value.int (127) ((389 : Nat))) :: (Value.int (0) ((390 : Nat))) :: (Value.int (1) ((391 : Nat))) :: []))) ((0 : Nat))) (#[])
noncomputable def o75K (P : Params) : Obj := Obj.mk (Value.type ("tuple")) (@Option.none Nat) (Data.seq (#[Value.none]) ((0 : Nat))) (#[])
noncomputable def o76K (P : Params) : Obj := Obj.mk (Value.type ("tuple")) (@Option.none Nat) (Data.seq ((List.toArray ((Value.int (14) ((0 : Nat))) :: (Value.int (10) ((0 : Nat))) :: (Value.int (4) ((0 : Nat))) :: (Value.int (1) ((0 : Nat))) :: (Value.int (1) ((0 : Nat))) :: (Value.int (22) ((0 : Nat))) :: (Value.int (0) ((0 : Nat))) :: (Value.int (31) ((0 : Nat))) :: (Value.int (16) ((0 : Nat))) :: (Value.int (127) ((0 : Nat))) :: (Value.int (0) ((0 : Nat))) :: (Value.int (13) ((0 : Nat))) :: (Value.int (7) ((0 : Nat))) :: (Value.int (22) ((0 : Nat))) :: (Value.int (0) ((0 : Nat))) :: (Value.int (31) ((0 : Nat))) :: (Value.int (16) ((0 : Nat))) :: (Value.int (127) ((0 : Nat))) :: (Value.int (0) ((0 : Nat))) :: (Value.int (1) ((0 : Nat))) :: []))) ((0 : Nat))) (#[])
noncomputable def o77K (P : Params) : Obj := Obj.mk (Value.type ("re.Pattern")) (@Option.none Nat) (Data.fields (#[Value.str (Str.ofString ("[\\x00-\\x1F\\x7F]")) ((370 : Nat)), Value.int (32) ((393 : Nat)), Value.int (0) ((0 : Nat)), Value.none, Value.none, Value.ref ((92 : Nat)), Value.int (0) ((0 : Nat))])) (#[])
noncomputable def o78K (P : Params) : Obj := Obj.mk (Value.type ("dict")) (@Option.none Nat) (Data.dict ((List.toArray ((kE P "__name__" (165 : Nat) (Value.str (Str.ofString ("cpy313.wsgiref.headers")) ((367 : Nat)))) :: (kE P "__doc__" (166 : Nat) (Value.none)) :: (kE P "__package__" (167 : Nat) (Value.none)) :: (kE P "__loader__" (168 : Nat) (Value.builtin ("__main__.__loader__#opaque"))) :: (kE P "__spec__" (169 : Nat) (Value.none)) :: (kE P "__annotations__" (170 : Nat) (Value.ref ((6 : Nat)))) :: (kE P "__builtins__" (171 : Nat) (Value.ref ((4 : Nat)))) :: (kE P "__file__" (173 : Nat) (Value.str (Str.ofString ("/claim/cut.py")) ((172 : Nat)))) :: (kE P "__cached__" (174 : Nat) (Value.none)) :: (kE P "_sre" (275 : Nat) (Value.ref ((12 : Nat)))) :: (kE P "_wall" (288 : Nat) (Value.ref ((38 : Nat)))) :: (kE P "insort_right" (303 : Nat) (Value.ref ((47 : Nat)))) :: (kE P "bisect_right" (317 : Nat) (Value.ref ((56 : Nat)))) :: (kE P "Error" (339 : Nat) (Value.ref ((66 : Nat)))) :: (kE P "error_reply" (355 : Nat) (Value.ref ((79 : Nat)))) :: (kE P "parse257" (366 : Nat) (Value.ref ((88 : Nat)))) :: (kE P "_name_disallowed_re" (394 : Nat) (Value.ref ((93 : Nat)))) :: (kE P "_value_disallowed_re" (428 : Nat) (Value.ref ((98 : Nat)))) :: []))) ((18 : Nat))) (#[])
noncomputable def o79K (P : Params) : Obj := Obj.mk (Value.type ("list")) (@Option.none Nat) (Data.seq ((List.toArray ((Value.int (14) ((398 : Nat))) :: (Value.int (14) ((399 : Nat))) :: (Value.int (4) ((400 : Nat))) :: (Value.int (1) ((401 : Nat))) :: (Value.int (1) ((402 : Nat))) :: (Value.int (9) ((403 : Nat))) :: (Value.int (4294966783) ((404 : Nat))) :: (Value.int (0) ((405 : Nat))) :: (Value.int (0) ((406 : Nat))) :: (Value.int (2147483648) ((407 : Nat))) :: (Value.int (0) ((408 : Nat))) :: (Value.int (0) ((409 : Nat))) :: (Value.int (0) ((410 : Nat))) :: (Value.int (0) ((411 : Nat))) :: (Value.int (0) ((412 : Nat))) :: (Value.int (13) ((413 : Nat))) :: (Value.int (11) ((414 : Nat))) :: (Value.int (9) ((415 : Nat))) :: (Value.int (4294966783) ((416 : Nat))) :: (Value.int (0) ((417 : Nat))) :: (Value.int (0) ((418 : Nat))) :: (Value.int (2147483648) ((419 : Nat))) :: (Value.int (0) ((420 : Nat))) :: (Value.int (0) ((421 : Nat))) :: (Value.int (0) ((422 : Nat))) :: (Value.int (0) ((423 : Nat))) :: (Value.int (0) ((424 : Nat))) :: (Value.int (1) ((425 : Nat))) :: []))) ((0 : Nat))) (#[])
noncomputable def o80K (P : Params) : Obj := Obj.mk (Value.type ("tuple")) (@Option.none Nat) (Data.seq ((List.toArray ((Value.int (14) ((0 : Nat))) :: (Value.int (14) ((0 : Nat))) :: (Value.int (4) ((0 : Nat))) :: (Value.int (1) ((0 : Nat))) :: (Value.int (1) ((0 : Nat))) :: (Value.int (9) ((0 : Nat))) :: (Value.int (4294966783) ((0 : Nat))) :: (Value.int (0) ((0 : Nat))) :: (Value.int (0) ((0 : Nat))) :: (Value.int (2147483648) ((0 : Nat))) :: (Value.int (0) ((0 : Nat))) :: (Value.int (0) ((0 : Nat))) :: (Value.int (0) ((0 : Nat))) :: (Value.int (0) ((0 : Nat))) :: (Value.int (0) ((0 : Nat))) :: (Value.int (13) ((0 : Nat))) :: (Value.int (11) ((0 : Nat))) :: (Value.int (9) ((0 : Nat))) :: (Value.int (4294966783) ((0 : Nat))) :: (Value.int (0) ((0 : Nat))) :: (Value.int (0) ((0 : Nat))) :: (Value.int (2147483648) ((0 : Nat))) :: (Value.int (0) ((0 : Nat))) :: (Value.int (0) ((0 : Nat))) :: (Value.int (0) ((0 : Nat))) :: (Value.int (0) ((0 : Nat))) :: (Value.int (0) ((0 : Nat))) :: (Value.int (1) ((0 : Nat))) :: []))) ((0 : Nat))) (#[])
noncomputable def o81K (P : Params) : Obj := Obj.mk (Value.type ("re.Pattern")) (@Option.none Nat) (Data.fields (#[Value.str (Str.ofString ("[\\x00-\\x08\\x0A-\\x1F\\x7F]")) ((396 : Nat)), Value.int (32) ((427 : Nat)), Value.int (0) ((0 : Nat)), Value.none, Value.none, Value.ref ((97 : Nat)), Value.int (0) ((0 : Nat))])) (#[])
noncomputable def o82K (P : Params) : Obj := Obj.mk (Value.type ("dict")) (@Option.none Nat) (Data.dict ((List.toArray ((kE P "__name__" (165 : Nat) (Value.str (Str.ofString ("cpy313.wsgiref.headers")) ((367 : Nat)))) :: (kE P "__doc__" (166 : Nat) (Value.none)) :: (kE P "__package__" (167 : Nat) (Value.none)) :: (kE P "__loader__" (168 : Nat) (Value.builtin ("__main__.__loader__#opaque"))) :: (kE P "__spec__" (169 : Nat) (Value.none)) :: (kE P "__annotations__" (170 : Nat) (Value.ref ((6 : Nat)))) :: (kE P "__builtins__" (171 : Nat) (Value.ref ((4 : Nat)))) :: (kE P "__file__" (173 : Nat) (Value.str (Str.ofString ("/claim/cut.py")) ((172 : Nat)))) :: (kE P "__cached__" (174 : Nat) (Value.none)) :: (kE P "_sre" (275 : Nat) (Value.ref ((12 : Nat)))) :: (kE P "_wall" (288 : Nat) (Value.ref ((38 : Nat)))) :: (kE P "insort_right" (303 : Nat) (Value.ref ((47 : Nat)))) :: (kE P "bisect_right" (317 : Nat) (Value.ref ((56 : Nat)))) :: (kE P "Error" (339 : Nat) (Value.ref ((66 : Nat)))) :: (kE P "error_reply" (355 : Nat) (Value.ref ((79 : Nat)))) :: (kE P "parse257" (366 : Nat) (Value.ref ((88 : Nat)))) :: (kE P "_name_disallowed_re" (394 : Nat) (Value.ref ((93 : Nat)))) :: (kE P "_value_disallowed_re" (428 : Nat) (Value.ref ((98 : Nat)))) :: (kE P "Headers" (584 : Nat) (Value.ref ((221 : Nat)))) :: []))) ((19 : Nat))) (#[])
noncomputable def o83K (P : Params) : Obj := Obj.mk (Value.none) (@Option.none Nat) (Data.fields ((List.toArray ((Value.int (2) ((0 : Nat))) :: (Value.int (0) ((0 : Nat))) :: (Value.ref ((37 : Nat))) :: (Value.int (6) ((0 : Nat))) :: (Value.int (0) ((0 : Nat))) :: (Value.ref ((46 : Nat))) :: (Value.int (12) ((0 : Nat))) :: (Value.int (0) ((0 : Nat))) :: (Value.ref ((55 : Nat))) :: (Value.int (33) ((0 : Nat))) :: (Value.int (0) ((0 : Nat))) :: (Value.ref ((62 : Nat))) :: (Value.int (35) ((0 : Nat))) :: (Value.int (0) ((0 : Nat))) :: (Value.ref ((75 : Nat))) :: (Value.int (37) ((0 : Nat))) :: (Value.int (0) ((0 : Nat))) :: (Value.ref ((87 : Nat))) :: (Value.int (57) ((0 : Nat))) :: (Value.int (0) ((0 : Nat))) :: (Value.ref ((104 : Nat))) :: [])))) (#[])
noncomputable def o84K (P : Params) : Obj := Obj.mk (Value.type ("dict")) (@Option.none Nat) (Data.dict ((List.toArray ((kE P "__module__" (436 : Nat) (Value.str (Str.ofString ("cpy313.wsgiref.headers")) ((367 : Nat)))) :: (kE P "__qualname__" (438 : Nat) (Value.str (Str.ofString ("Headers")) ((437 : Nat)))) :: (kE P "__firstlineno__" (440 : Nat) (Value.int (57) ((439 : Nat)))) :: (kE P "__init__" (450 : Nat) (Value.ref ((113 : Nat)))) :: (kE P "_convert_string_type" (460 : Nat) (Value.ref ((120 : Nat)))) :: (kE P "__len__" (467 : Nat) (Value.ref ((127 : Nat)))) :: (kE P "__setitem__" (476 : Nat) (Value.ref ((134 : Nat)))) :: (kE P "__delitem__" (482 : Nat) (Value.ref ((139 : Nat)))) :: (kE P "__getitem__" (490 : Nat) (Value.ref ((146 : Nat)))) :: (kE P "__contains__" (498 : Nat) (Value.ref ((153 : Nat)))) :: (kE P "get_all" (506 : Nat) (Value.ref ((160 : Nat)))) :: (kE P "get" (517 : Nat) (Value.ref ((168 : Nat)))) :: (kE P "keys" (523 : Nat) (Value.ref ((173 : Nat)))) :: (kE P "values" (529 : Nat) (Value.ref ((178 : Nat)))) :: (kE P "items" (536 : Nat) (Value.ref ((185 : Nat)))) :: (kE P "__repr__" (543 : Nat) (Value.ref ((192 : Nat)))) :: (kE P "__str__" (549 : Nat) (Value.ref ((197 : Nat)))) :: (kE P "__bytes__" (556 : Nat) (Value.ref ((204 : Nat)))) :: (kE P "setdefault" (565 : Nat) (Value.ref ((211 : Nat)))) :: (kE P "add_header" (575 : Nat) (Value.ref ((218 : Nat)))) :: (kE P "__static_attributes__" (577 : Nat) (Value.ref ((219 : Nat)))) :: []))) ((21 : Nat))) (#[])
noncomputable def o85K (P : Params) : Obj := Obj.mk (Value.none) (@Option.none Nat) (Data.fields ((List.toArray ((Value.int (59) ((0 : Nat))) :: (Value.int (4) ((0 : Nat))) :: (Value.ref ((112 : Nat))) :: (Value.int (69) ((0 : Nat))) :: (Value.int (4) ((0 : Nat))) :: (Value.ref ((119 : Nat))) :: (Value.int (77) ((0 : Nat))) :: (Value.int (4) ((0 : Nat))) :: (Value.ref ((126 : Nat))) :: (Value.int (80) ((0 : Nat))) :: (Value.int (4) ((0 : Nat))) :: (Value.ref ((133 : Nat))) :: (Value.int (84) ((0 : Nat))) :: (Value.int (4) ((0 : Nat))) :: (Value.ref ((138 : Nat))) :: (Value.int (88) ((0 : Nat))) :: (Value.int (4) ((0 : Nat))) :: (Value.ref ((145 : Nat))) :: (Value.int (91) ((0 : Nat))) :: (Value.int (4) ((0 : Nat))) :: (Value.ref ((152 : Nat))) :: (Value.int (94) ((0 : Nat))) :: (Value.int (4) ((0 : Nat))) :: (Value.ref ((159 : Nat))) :: (Value.int (97) ((0 : Nat))) :: (Value.int (4) ((0 : Nat))) :: (Value.ref ((167 : Nat))) :: (Value.int (104) ((0 : Nat))) :: (Value.int (4) ((0 : Nat))) :: (Value.ref ((172 : Nat))) :: (Value.int (107) ((0 : Nat))) :: (Value.int (4) ((0 : Nat))) :: (Value.ref ((177 : Nat))) :: (Value.int (110) ((0 : Nat))) :: (Value.int (4) ((0 : Nat))) :: (Value.ref ((184 : Nat))) :: (Value.int (113) ((0 : Nat))) :: (Value.int (4) ((0 : Nat))) :: (Value.ref ((191 : Nat))) :: (Value.int (116) ((0 : Nat))) :: (Value.int (4) ((0 : Nat))) :: (Value.ref ((196 : Nat))) :: (Value.int (119) ((0 : Nat))) :: (Value.int (4) ((0 : Nat))) :: (Value.ref ((203 : Nat))) :: (Value.int (122) ((0 : Nat))) :: (Value.int (4) ((0 : Nat))) :: (Value.ref ((210 : Nat))) :: (Value.int (125) ((0 : Nat))) :: (Value.int (4) ((0 : Nat))) :: (Value.ref ((217 : Nat))) :: [])))) (#[])
noncomputable def o86K (P : Params) : Obj := Obj.mk (Value.type ("code")) (@Option.none Nat) (Data.fields ((List.toArray ((Value.str (Str.ofString ("Headers")) ((431 : Nat))) :: (Value.str (Str.ofString ("Headers")) ((432 : Nat))) :: (Value.str (Str.ofString ("/claim/cut.py")) ((433 : Nat))) :: (Value.int (57) ((0 : Nat))) :: (Value.int (0) ((0 : Nat))) :: (Value.int (0) ((0 : Nat))) :: (Value.int (0) ((0 : Nat))) :: (Value.int (0) ((0 : Nat))) :: (Value.ref ((102 : Nat))) :: (Value.bool (Bool.false)) :: (Value.int (276) ((0 : Nat))) :: (Value.ref ((103 : Nat))) :: (Value.none) :: (Value.none) :: (Value.none) :: (Value.none) :: (Value.int (434) ((0 : Nat))) :: (Value.int (57) ((0 : Nat))) :: (Value.str (Str.ofString ("/claim/cut.py")) ((435 : Nat))) :: [])))) (#[])
noncomputable def o87K (P : Params) : Obj := Obj.mk (Value.type ("frame")) (@Option.none Nat) (Data.plain) (#[Option.some (Value.ref ((104 : Nat))), Option.some (Value.ref ((3 : Nat))), Option.some (Value.ref ((101 : Nat))), Option.none, Option.some (Value.str (Str.ofString ("cpy313.wsgiref.headers")) ((367 : Nat))), Option.none, Option.some (Value.ref ((0 : Nat)))])
noncomputable def o88K (P : Params) : Obj := Obj.mk (Value.type ("tuple")) (@Option.none Nat) (Data.seq (#[Value.str (Str.ofString ("self")) ((444 : Nat)), Value.str (Str.ofString ("headers")) ((445 : Nat)), Value.str (Str.ofString ("k")) ((446 : Nat)), Value.str (Str.ofString ("v")) ((447 : Nat))]) ((0 : Nat))) (#[])
noncomputable def o89K (P : Params) : Obj := Obj.mk (Value.none) (@Option.none Nat) (Data.func (FuncData.mk (Str.ofString ("__init__")) (Str.ofString ("Headers.__init__")) m12x0p (FuncBody.stmts m12x0b) m12x0s ((0 : Nat)) (@List.nil (Str × Nat)) (Value.none) (Value.none) (Value.none) (Value.none) (@Option.none Nat) (Value.none) (Value.none) ((0 : Nat)))) (#[])
noncomputable def o90K (P : Params) : Obj := Obj.mk (Value.type ("code")) (@Option.none Nat) (Data.fields ((List.toArray ((Value.str (Str.ofString ("__init__")) ((441 : Nat))) :: (Value.str (Str.ofString ("Headers.__init__")) ((442 : Nat))) :: (Value.str (Str.ofString ("/claim/cut.py")) ((443 : Nat))) :: (Value.int (59) ((0 : Nat))) :: (Value.int (2) ((0 : Nat))) :: (Value.int (0) ((0 : Nat))) :: (Value.int (0) ((0 : Nat))) :: (Value.int (3) ((0 : Nat))) :: (Value.ref ((107 : Nat))) :: (Value.bool (Bool.true)) :: (Value.int (276) ((0 : Nat))) :: (Value.ref ((108 : Nat))) :: (Value.none) :: (Value.ref ((109 : Nat))) :: (Value.ref ((110 : Nat))) :: (Value.ref ((111 : Nat))) :: (Value.int (448) ((0 : Nat))) :: (Value.int (59) ((0 : Nat))) :: (Value.str (Str.ofString ("/claim/cut.py")) ((449 : Nat))) :: [])))) (#[])
noncomputable def o91K (P : Params) : Obj := Obj.mk (Value.type ("function")) (@Option.none Nat) (Data.func (FuncData.mk (Str.ofString ("__init__")) (Str.ofString ("Headers.__init__")) m12x0p (FuncBody.stmts m12x0b) m12x0s ((3 : Nat)) (@List.nil (Str × Nat)) (Value.ref ((106 : Nat))) (Value.none) (Value.none) (Value.str (Str.ofString ("cpy313.wsgiref.headers")) ((367 : Nat))) (@Option.none Nat) (Value.ref ((112 : Nat))) (Value.none) ((0 : Nat)))) (#[])
noncomputable def o92K (P : Params) : Obj := Obj.mk (Value.type ("tuple")) (@Option.none Nat) (Data.seq (#[Value.str (Str.ofString ("self")) ((454 : Nat)), Value.str (Str.ofString ("value")) ((455 : Nat)), Value.str (Str.ofString ("name")) ((456 : Nat)), Value.str (Str.ofString ("regex")) ((457 : Nat))]) ((0 : Nat))) (#[])
noncomputable def o93K (P : Params) : Obj := Obj.mk (Value.none) (@Option.none Nat) (Data.func (FuncData.mk (Str.ofString ("_convert_string_type")) (Str.ofString ("Headers._convert_string_type")) m12x1p (FuncBody.stmts m12x1b) m12x1s ((0 : Nat)) (@List.nil (Str × Nat)) (Value.none) (Value.none) (Value.none) (Value.none) (@Option.none Nat) (Value.none) (Value.none) ((0 : Nat)))) (#[])
noncomputable def o94K (P : Params) : Obj := Obj.mk (Value.type ("code")) (@Option.none Nat) (Data.fields ((List.toArray ((Value.str (Str.ofString ("_convert_string_type")) ((451 : Nat))) :: (Value.str (Str.ofString ("Headers._convert_string_type")) ((452 : Nat))) :: (Value.str (Str.ofString ("/claim/cut.py")) ((453 : Nat))) :: (Value.int (69) ((0 : Nat))) :: (Value.int (2) ((0 : Nat))) :: (Value.int (0) ((0 : Nat))) :: (Value.int (1) ((0 : Nat))) :: (Value.int (3) ((0 : Nat))) :: (Value.ref ((114 : Nat))) :: (Value.bool (Bool.true)) :: (Value.int (276) ((0 : Nat))) :: (Value.ref ((115 : Nat))) :: (Value.none) :: (Value.ref ((116 : Nat))) :: (Value.ref ((117 : Nat))) :: (Value.ref ((118 : Nat))) :: (Value.int (458) ((0 : Nat))) :: (Value.int (69) ((0 : Nat))) :: (Value.str (Str.ofString ("/claim/cut.py")) ((459 : Nat))) :: [])))) (#[])
noncomputable def o95K (P : Params) : Obj := Obj.mk (Value.type ("function")) (@Option.none Nat) (Data.func (FuncData.mk (Str.ofString ("_convert_string_type")) (Str.ofString ("Headers._convert_string_type")) m12x1p (FuncBody.stmts m12x1b) m12x1s ((3 : Nat)) (@List.nil (Str × Nat)) (Value.none) (Value.none) (Value.none) (Value.str (Str.ofString ("cpy313.wsgiref.headers")) ((367 : Nat))) (@Option.none Nat) (Value.ref ((119 : Nat))) (Value.none) ((0 : Nat)))) (#[])
noncomputable def o96K (P : Params) : Obj := Obj.mk (Value.type ("tuple")) (@Option.none Nat) (Data.seq (#[Value.str (Str.ofString ("self")) ((464 : Nat))]) ((0 : Nat))) (#[])
noncomputable def o97K (P : Params) : Obj := Obj.mk (Value.none) (@Option.none Nat) (Data.func (FuncData.mk (Str.ofString ("__len__")) (Str.ofString ("Headers.__len__")) m12x2p (FuncBody.stmts m12x2b) m12x2s ((0 : Nat)) (@List.nil (Str × Nat)) (Value.none) (Value.none) (Value.none) (Value.none) (@Option.none Nat) (Value.none) (Value.none) ((0 : Nat)))) (#[])
noncomputable def o98K (P : Params) : Obj := Obj.mk (Value.type ("code")) (@Option.none Nat) (Data.fields ((List.toArray ((Value.str (Str.ofString ("__len__")) ((461 : Nat))) :: (Value.str (Str.ofString ("Headers.__len__")) ((462 : Nat))) :: (Value.str (Str.ofString ("/claim/cut.py")) ((463 : Nat))) :: (Value.int (77) ((0 : Nat))) :: (Value.int (1) ((0 : Nat))) :: (Value.int (0) ((0 : Nat))) :: (Value.int (0) ((0 : Nat))) :: (Value.int (3) ((0 : Nat))) :: (Value.ref ((121 : Nat))) :: (Value.bool (Bool.true)) :: (Value.int (276) ((0 : Nat))) :: (Value.ref ((122 : Nat))) :: (Value.none) :: (Value.ref ((123 : Nat))) :: (Value.ref ((124 : Nat))) :: (Value.ref ((125 : Nat))) :: (Value.int (465) ((0 : Nat))) :: (Value.int (77) ((0 : Nat))) :: (Value.str (Str.ofString ("/claim/cut.py")) ((466 : Nat))) :: [])))) (#[])
noncomputable def o99K (P : Params) : Obj := Obj.mk (Value.type ("function")) (@Option.none Nat) (Data.func (FuncData.mk (Str.ofString ("__len__")) (Str.ofString ("Headers.__len__")) m12x2p (FuncBody.stmts m12x2b) m12x2s ((3 : Nat)) (@List.nil (Str × Nat)) (Value.none) (Value.none) (Value.none) (Value.str (Str.ofString ("cpy313.wsgiref.headers")) ((367 : Nat))) (@Option.none Nat) (Value.ref ((126 : Nat))) (Value.none) ((0 : Nat)))) (#[])
noncomputable def o100K (P : Params) : Obj := Obj.mk (Value.type ("tuple")) (@Option.none Nat) (Data.seq (#[Value.str (Str.ofString ("self")) ((471 : Nat)), Value.str (Str.ofString ("name")) ((472 : Nat)), Value.str (Str.ofString ("val")) ((473 : Nat))]) ((0 : Nat))) (#[])
noncomputable def o101K (P : Params) : Obj := Obj.mk (Value.none) (@Option.none Nat) (Data.func (FuncData.mk (Str.ofString ("__setitem__")) (Str.ofString ("Headers.__setitem__")) m12x3p (FuncBody.stmts m12x3b) m12x3s ((0 : Nat)) (@List.nil (Str × Nat)) (Value.none) (Value.none) (Value.none) (Value.none) (@Option.none Nat) (Value.none) (Value.none) ((0 : Nat)))) (#[])
noncomputable def o102K (P : Params) : Obj := Obj.mk (Value.type ("code")) (@Option.none Nat) (Data.fields ((List.toArray ((Value.str (Str.ofString ("__setitem__")) ((468 : Nat))) :: (Value.str (Str.ofString ("Headers.__setitem__")) ((469 : Nat))) :: (Value.str (Str.ofString ("/claim/cut.py")) ((470 : Nat))) :: (Value.int (80) ((0 : Nat))) :: (Value.int (3) ((0 : Nat))) :: (Value.int (0) ((0 : Nat))) :: (Value.int (0) ((0 : Nat))) :: (Value.int (3) ((0 : Nat))) :: (Value.ref ((128 : Nat))) :: (Value.bool (Bool.true)) :: (Value.int (276) ((0 : Nat))) :: (Value.ref ((129 : Nat))) :: (Value.none) :: (Value.ref ((130 : Nat))) :: (Value.ref ((131 : Nat))) :: (Value.ref ((132 : Nat))) :: (Value.int (474) ((0 : Nat))) :: (Value.int (80) ((0 : Nat))) :: (Value.str (Str.ofString ("/claim/cut.py")) ((475 : Nat))) :: [])))) (#[])
noncomputable def o103K (P : Params) : Obj := Obj.mk (Value.type ("function")) (@Option.none Nat) (Data.func (FuncData.mk (Str.ofString ("__setitem__")) (Str.ofString ("Headers.__setitem__")) m12x3p (FuncBody.stmts m12x3b) m12x3s ((3 : Nat)) (@List.nil (Str × Nat)) (Value.none) (Value.none) (Value.none) (Value.str (Str.ofString ("cpy313.wsgiref.headers")) ((367 : Nat))) (@Option.none Nat) (Value.ref ((133 : Nat))) (Value.none) ((0 : Nat)))) (#[])
noncomputable def o104K (P : Params) : Obj := Obj.mk (Value.none) (@Option.none Nat) (Data.func (FuncData.mk (Str.ofString ("__delitem__")) (Str.ofString ("Headers.__delitem__")) m12x4p (FuncBody.stmts m12x4b) m12x4s ((0 : Nat)) (@List.nil (Str × Nat)) (Value.none) (Value.none) (Value.none) (Value.none) (@Option.none Nat) (Value.none) (Value.none) ((0 : Nat)))) (#[])
noncomputable def o105K (P : Params) : Obj := Obj.mk (Value.type ("code")) (@Option.none Nat) (Data.fields ((List.toArray ((Value.str (Str.ofString ("__delitem__")) ((477 : Nat))) :: (Value.str (Str.ofString ("Headers.__delitem__")) ((478 : Nat))) :: (Value.str (Str.ofString ("/claim/cut.py")) ((479 : Nat))) :: (Value.int (84) ((0 : Nat))) :: (Value.int (2) ((0 : Nat))) :: (Value.int (0) ((0 : Nat))) :: (Value.int (0) ((0 : Nat))) :: (Value.int (3) ((0 : Nat))) :: (Value.ref ((135 : Nat))) :: (Value.bool (Bool.true)) :: (Value.int (276) ((0 : Nat))) :: (Value.ref ((136 : Nat))) :: (Value.none) :: (Value.none) :: (Value.none) :: (Value.ref ((137 : Nat))) :: (Value.int (480) ((0 : Nat))) :: (Value.int (84) ((0 : Nat))) :: (Value.str (Str.ofString ("/claim/cut.py")) ((481 : Nat))) :: [])))) (#[])
noncomputable def o106K (P : Params) : Obj := Obj.mk (Value.type ("function")) (@Option.none Nat) (Data.func (FuncData.mk (Str.ofString ("__delitem__")) (Str.ofString ("Headers.__delitem__")) m12x4p (FuncBody.stmts m12x4b) m12x4s ((3 : Nat)) (@List.nil (Str × Nat)) (Value.none) (Value.none) (Value.none) (Value.str (Str.ofString ("cpy313.wsgiref.headers")) ((367 : Nat))) (@Option.none Nat) (Value.ref ((138 : Nat))) (Value.none) ((0 : Nat)))) (#[])
noncomputable def o107K (P : Params) : Obj := Obj.mk (Value.type ("tuple")) (@Option.none Nat) (Data.seq (#[Value.str (Str.ofString ("self")) ((486 : Nat)), Value.str (Str.ofString ("name")) ((487 : Nat))]) ((0 : Nat))) (#[])
noncomputable def o108K (P : Params) : Obj := Obj.mk (Value.none) (@Option.none Nat) (Data.func (FuncData.mk (Str.ofString ("__getitem__")) (Str.ofString ("Headers.__getitem__")) m12x5p (FuncBody.stmts m12x5b) m12x5s ((0 : Nat)) (@List.nil (Str × Nat)) (Value.none) (Value.none) (Value.none) (Value.none) (@Option.none Nat) (Value.none) (Value.none) ((0 : Nat)))) (#[])
noncomputable def o109K (P : Params) : Obj := Obj.mk (Value.type ("code")) (@Option.none Nat) (Data.fields ((List.toArray ((Value.str (Str.ofString ("__getitem__")) ((483 : Nat))) :: (Value.str (Str.ofString ("Headers.__getitem__")) ((484 : Nat))) :: (Value.str (Str.ofString ("/claim/cut.py")) ((485 : Nat))) :: (Value.int (88) ((0 : Nat))) :: (Value.int (2) ((0 : Nat))) :: (Value.int (0) ((0 : Nat))) :: (Value.int (0) ((0 : Nat))) :: (Value.int (3) ((0 : Nat))) :: (Value.ref ((140 : Nat))) :: (Value.bool (Bool.true)) :: (Value.int (276) ((0 : Nat))) :: (Value.ref ((141 : Nat))) :: (Value.none) :: (Value.ref ((142 : Nat))) :: (Value.ref ((143 : Nat))) :: (Value.ref ((144 : Nat))) :: (Value.int (488) ((0 : Nat))) :: (Value.int (88) ((0 : Nat))) :: (Value.str (Str.ofString ("/claim/cut.py")) ((489 : Nat))) :: [])))) (#[])
noncomputable def o110K (P : Params) : Obj := Obj.mk (Value.type ("function")) (@Option.none Nat) (Data.func (FuncData.mk (Str.ofString ("__getitem__")) (Str.ofString ("Headers.__getitem__")) m12x5p (FuncBody.stmts m12x5b) m12x5s ((3 : Nat)) (@List.nil (Str × Nat)) (Value.none) (Value.none) (Value.none) (Value.str (Str.ofString ("cpy313.wsgiref.headers")) ((367 : Nat))) (@Option.none Nat) (Value.ref ((145 : Nat))) (Value.none) ((0 : Nat)))) (#[])
noncomputable def o111K (P : Params) : Obj := Obj.mk (Value.type ("tuple")) (@Option.none Nat) (Data.seq (#[Value.str (Str.ofString ("self")) ((494 : Nat)), Value.str (Str.ofString ("name")) ((495 : Nat))]) ((0 : Nat))) (#[])
noncomputable def o112K (P : Params) : Obj := Obj.mk (Value.none) (@Option.none Nat) (Data.func (FuncData.mk (Str.ofString ("__contains__")) (Str.ofString ("Headers.__contains__")) m12x6p (FuncBody.stmts m12x6b) m12x6s ((0 : Nat)) (@List.nil (Str × Nat)) (Value.none) (Value.none) (Value.none) (Value.none) (@Option.none Nat) (Value.none) (Value.none) ((0 : Nat)))) (#[])
noncomputable def o113K (P : Params) : Obj := Obj.mk (Value.type ("code")) (@Option.none Nat) (Data.fields ((List.toArray ((Value.str (Str.ofString ("__contains__")) ((491 : Nat))) :: (Value.str (Str.ofString ("Headers.__contains__")) ((492 : Nat))) :: (Value.str (Str.ofString ("/claim/cut.py")) ((493 : Nat))) :: (Value.int (91) ((0 : Nat))) :: (Value.int (2) ((0 : Nat))) :: (Value.int (0) ((0 : Nat))) :: (Value.int (0) ((0 : Nat))) :: (Value.int (3) ((0 : Nat))) :: (Value.ref ((147 : Nat))) :: (Value.bool (Bool.true)) :: (Value.int (276) ((0 : Nat))) :: (Value.ref ((148 : Nat))) :: (Value.none) :: (Value.ref ((149 : Nat))) :: (Value.ref ((150 : Nat))) :: (Value.ref ((151 : Nat))) :: (Value.int (496) ((0 : Nat))) :: (Value.int (91) ((0 : Nat))) :: (Value.str (Str.ofString ("/claim/cut.py")) ((497 : Nat))) :: [])))) (#[])
noncomputable def o114K (P : Params) : Obj := Obj.mk (Value.type ("function")) (@Option.none Nat) (Data.func (FuncData.mk (Str.ofString ("__contains__")) (Str.ofString ("Headers.__contains__")) m12x6p (FuncBody.stmts m12x6b) m12x6s ((3 : Nat)) (@List.nil (Str × Nat)) (Value.none) (Value.none) (Value.none) (Value.str (Str.ofString ("cpy313.wsgiref.headers")) ((367 : Nat))) (@Option.none Nat) (Value.ref ((152 : Nat))) (Value.none) ((0 : Nat)))) (#[])
noncomputable def o115K (P : Params) : Obj := Obj.mk (Value.type ("tuple")) (@Option.none Nat) (Data.seq (#[Value.str (Str.ofString ("self")) ((502 : Nat)), Value.str (Str.ofString ("name")) ((503 : Nat))]) ((0 : Nat))) (#[])
noncomputable def o116K (P : Params) : Obj := Obj.mk (Value.none) (@Option.none Nat) (Data.func (FuncData.mk (Str.ofString ("get_all")) (Str.ofString ("Headers.get_all")) m12x7p (FuncBody.stmts m12x7b) m12x7s ((0 : Nat)) (@List.nil (Str × Nat)) (Value.none) (Value.none) (Value.none) (Value.none) (@Option.none Nat) (Value.none) (Value.none) ((0 : Nat)))) (#[])
noncomputable def o117K (P : Params) : Obj := Obj.mk (Value.type ("code")) (@Option.none Nat) (Data.fields ((List.toArray ((Value.str (Str.ofString ("get_all")) ((499 : Nat))) :: (Value.str (Str.ofString ("Headers.get_all")) ((500 : Nat))) :: (Value.str (Str.ofString ("/claim/cut.py")) ((501 : Nat))) :: (Value.int (94) ((0 : Nat))) :: (Value.int (2) ((0 : Nat))) :: (Value.int (0) ((0 : Nat))) :: (Value.int (0) ((0 : Nat))) :: (Value.int (3) ((0 : Nat))) :: (Value.ref ((154 : Nat))) :: (Value.bool (Bool.true)) :: (Value.int (276) ((0 : Nat))) :: (Value.ref ((155 : Nat))) :: (Value.none) :: (Value.ref ((156 : Nat))) :: (Value.ref ((157 : Nat))) :: (Value.ref ((158 : Nat))) :: (Value.int (504) ((0 : Nat))) :: (Value.int (94) ((0 : Nat))) :: (Value.str (Str.ofString ("/claim/cut.py")) ((505 : Nat))) :: [])))) (#[])
noncomputable def o118K (P : Params) : Obj := Obj.mk (Value.type ("function")) (@Option.none Nat) (Data.func (FuncData.mk (Str.ofString ("get_all")) (Str.ofString ("Headers.get_all")) m12x7p (FuncBody.stmts m12x7b) m12x7s ((3 : Nat)) (@List.nil (Str × Nat)) (Value.none) (Value.none) (Value.none) (Value.str (Str.ofString ("cpy313.wsgiref.headers")) ((367 : Nat))) (@Option.none Nat) (Value.ref ((159 : Nat))) (Value.none) ((0 : Nat)))) (#[])
noncomputable def o119K (P : Params) : Obj := Obj.mk (Value.type ("tuple")) (@Option.none Nat) (Data.seq (#[Value.str (Str.ofString ("self")) ((510 : Nat)), Value.str (Str.ofString ("name")) ((511 : Nat)), Value.str (Str.ofString ("default")) ((512 : Nat)), Value.str (Str.ofString ("k")) ((513 : Nat)), Value.str (Str.ofString ("v")) ((514 : Nat))]) ((0 : Nat))) (#[])
noncomputable def o120K (P : Params) : Obj := Obj.mk (Value.none) (@Option.none Nat) (Data.func (FuncData.mk (Str.ofString ("get")) (Str.ofString ("Headers.get")) m12x8p (FuncBody.stmts m12x8b) m12x8s ((0 : Nat)) (@List.nil (Str × Nat)) (Value.none) (Value.none) (Value.none) (Value.none) (@Option.none Nat) (Value.none) (Value.none) ((0 : Nat)))) (#[])
noncomputable def o121K (P : Params) : Obj := Obj.mk (Value.type ("code")) (@Option.none Nat) (Data.fields ((List.toArray ((Value.str (Str.ofString ("get")) ((507 : Nat))) :: (Value.str (Str.ofString ("Headers.get")) ((508 : Nat))) :: (Value.str (Str.ofString ("/claim/cut.py")) ((509 : Nat))) :: (Value.int (97) ((0 : Nat))) :: (Value.int (3) ((0 : Nat))) :: (Value.int (0) ((0 : Nat))) :: (Value.int (0) ((0 : Nat))) :: (Value.int (3) ((0 : Nat))) :: (Value.ref ((162 : Nat))) :: (Value.bool (Bool.true)) :: (Value.int (276) ((0 : Nat))) :: (Value.ref ((163 : Nat))) :: (Value.none) :: (Value.ref ((164 : Nat))) :: (Value.ref ((165 : Nat))) :: (Value.ref ((166 : Nat))) :: (Value.int (515) ((0 : Nat))) :: (Value.int (97) ((0 : Nat))) :: (Value.str (Str.ofString ("/claim/cut.py")) ((516 : Nat))) :: [])))) (#[])
noncomputable def o122K (P : Params) : Obj := Obj.mk (Value.type ("function")) (@Option.none Nat) (Data.func (FuncData.mk (Str.ofString ("get")) (Str.ofString ("Headers.get")) m12x8p (FuncBody.stmts m12x8b) m12x8s ((3 : Nat)) (@List.nil (Str × Nat)) (Value.ref ((161 : Nat))) (Value.none) (Value.none) (Value.str (Str.ofString ("cpy313.wsgiref.headers")) ((367 : Nat))) (@Option.none Nat) (Value.ref ((167 : Nat))) (Value.none) ((0 : Nat)))) (#[])
noncomputable def o123K (P : Params) : Obj := Obj.mk (Value.none) (@Option.none Nat) (Data.func (FuncData.mk (Str.ofString ("keys")) (Str.ofString ("Headers.keys")) m12x9p (FuncBody.stmts m12x9b) m12x9s ((0 : Nat)) (@List.nil (Str × Nat)) (Value.none) (Value.none) (Value.none) (Value.none) (@Option.none Nat) (Value.none) (Value.none) ((0 : Nat)))) (#[])
noncomputable def o124K (P : Params) : Obj := Obj.mk (Value.type ("code")) (@Option.none Nat) (Data.fields ((List.toArray ((Value.str (Str.ofString ("keys")) ((518 : Nat))) :: (Value.str (Str.ofString ("Headers.keys")) ((519 : Nat))) :: (Value.str (Str.ofString ("/claim/cut.py")) ((520 : Nat))) :: (Value.int (104) ((0 : Nat))) :: (Value.int (1) ((0 : Nat))) :: (Value.int (0) ((0 : Nat))) :: (Value.int (0) ((0 : Nat))) :: (Value.int (3) ((0 : Nat))) :: (Value.ref ((169 : Nat))) :: (Value.bool (Bool.true)) :: (Value.int (276) ((0 : Nat))) :: (Value.ref ((170 : Nat))) :: (Value.none) :: (Value.none) :: (Value.none) :: (Value.ref ((171 : Nat))) :: (Value.int (521) ((0 : Nat))) :: (Value.int (104) ((0 : Nat))) :: (Value.str (Str.ofString ("/claim/cut.py")) ((522 : Nat))) :: [])))) (#[])
noncomputable def o125K (P : Params) : Obj := Obj.mk (Value.type ("function")) (@Option.none Nat) (Data.func (FuncData.mk (Str.ofString ("keys")) (Str.ofString ("Headers.keys")) m12x9p (FuncBody.stmts m12x9b) m12x9s ((3 : Nat)) (@List.nil (Str × Nat)) (Value.none) (Value.none) (Value.none) (Value.str (Str.ofString ("cpy313.wsgiref.headers")) ((367 : Nat))) (@Option.none Nat) (Value.ref ((172 : Nat))) (Value.none) ((0 : Nat)))) (#[])
noncomputable def o126K (P : Params) : Obj := Obj.mk (Value.none) (@Option.none Nat) (Data.func (FuncData.mk (Str.ofString ("values")) (Str.ofString ("Headers.values")) m12x10p (FuncBody.stmts m12x10b) m12x10s ((0 : Nat)) (@List.nil (Str × Nat)) (Value.none) (Value.none) (Value.none) (Value.none) (@Option.none Nat) (Value.none) (Value.none) ((0 : Nat)))) (#[])
noncomputable def o127K (P : Params) : Obj := Obj.mk (Value.type ("code")) (@Option.none Nat) (Data.fields ((List.toArray ((Value.str (Str.ofString ("values")) ((524 : Nat))) :: (Value.str (Str.ofString ("Headers.values")) ((525 : Nat))) :: (Value.str (Str.ofString ("/claim/cut.py")) ((526 : Nat))) :: (Value.int (107) ((0 : Nat))) :: (Value.int (1) ((0 : Nat))) :: (Value.int (0) ((0 : Nat))) :: (Value.int (0) ((0 : Nat))) :: (Value.int (3) ((0 : Nat))) :: (Value.ref ((174 : Nat))) :: (Value.bool (Bool.true)) :: (Value.int (276) ((0 : Nat))) :: (Value.ref ((175 : Nat))) :: (Value.none) :: (Value.none) :: (Value.none) :: (Value.ref ((176 : Nat))) :: (Value.int (527) ((0 : Nat))) :: (Value.int (107) ((0 : Nat))) :: (Value.str (Str.ofString ("/claim/cut.py")) ((528 : Nat))) :: [])))) (#[])
noncomputable def o128K (P : Params) : Obj := Obj.mk (Value.type ("function")) (@Option.none Nat) (Data.func (FuncData.mk (Str.ofString ("values")) (Str.ofString ("Headers.values")) m12x10p (FuncBody.stmts m12x10b) m12x10s ((3 : Nat)) (@List.nil (Str × Nat)) (Value.none) (Value.none) (Value.none) (Value.str (Str.ofString ("cpy313.wsgiref.headers")) ((367 : Nat))) (@Option.none Nat) (Value.ref ((177 : Nat))) (Value.none) ((0 : Nat)))) (#[])
noncomputable def o129K (P : Params) : Obj := Obj.mk (Value.type ("tuple")) (@Option.none Nat) (Data.seq (#[Value.str (Str.ofString ("self")) ((533 : Nat))]) ((0 : Nat))) (#[])
noncomputable def o130K (P : Params) : Obj := Obj.mk (Value.none) (@Option.none Nat) (Data.func (FuncData.mk (Str.ofString ("items")) (Str.ofString ("Headers.items")) m12x11p (FuncBody.stmts m12x11b) m12x11s ((0 : Nat)) (@List.nil (Str × Nat)) (Value.none) (Value.none) (Value.none) (Value.none) (@Option.none Nat) (Value.none) (Value.none) ((0 : Nat)))) (#[])
noncomputable def o131K (P : Params) : Obj := Obj.mk (Value.type ("code")) (@Option.none Nat) (Data.fields ((List.toArray ((Value.str (Str.ofString ("items")) ((530 : Nat))) :: (Value.str (Str.ofString ("Headers.items")) ((531 : Nat))) :: (Value.str (Str.ofString ("/claim/cut.py")) ((532 : Nat))) :: (Value.int (110) ((0 : Nat))) :: (Value.int (1) ((0 : Nat))) :: (Value.int (0) ((0 : Nat))) :: (Value.int (0) ((0 : Nat))) :: (Value.int (3) ((0 : Nat))) :: (Value.ref ((179 : Nat))) :: (Value.bool (Bool.true)) :: (Value.int (276) ((0 : Nat))) :: (Value.ref ((180 : Nat))) :: (Value.none) :: (Value.ref ((181 : Nat))) :: (Value.ref ((182 : Nat))) :: (Value.ref ((183 : Nat))) :: (Value.int (534) ((0 : Nat))) :: (Value.int (110) ((0 : Nat))) :: (Value.str (Str.ofString ("/claim/cut.py")) ((535 : Nat))) :: [])))) (#[])
noncomputable def o132K (P : Params) : Obj := Obj.mk (Value.type ("function")) (@Option.none Nat) (Data.func (FuncData.mk (Str.ofString ("items")) (Str.ofString ("Headers.items")) m12x11p (FuncBody.stmts m12x11b) m12x11s ((3 : Nat)) (@List.nil (Str × Nat)) (Value.none) (Value.none) (Value.none) (Value.str (Str.ofString ("cpy313.wsgiref.headers")) ((367 : Nat))) (@Option.none Nat) (Value.ref ((184 : Nat))) (Value.none) ((0 : Nat)))) (#[])
noncomputable def o133K (P : Params) : Obj := Obj.mk (Value.type ("tuple")) (@Option.none Nat) (Data.seq (#[Value.str (Str.ofString ("self")) ((540 : Nat))]) ((0 : Nat))) (#[])
noncomputable def o134K (P : Params) : Obj := Obj.mk (Value.none) (@Option.none Nat) (Data.func (FuncData.mk (Str.ofString ("__repr__")) (Str.ofString ("Headers.__repr__")) m12x12p (FuncBody.stmts m12x12b) m12x12s ((0 : Nat)) (@List.nil (Str × Nat)) (Value.none) (Value.none) (Value.none) (Value.none) (@Option.none Nat) (Value.none) (Value.none) ((0 : Nat)))) (#[])
noncomputable def o135K (P : Params) : Obj := Obj.mk (Value.type ("code")) (@Option.none Nat) (Data.fields ((List.toArray ((Value.str (Str.ofString ("__repr__")) ((537 : Nat))) :: (Value.str (Str.ofString ("Headers.__repr__")) ((538 : Nat))) :: (Value.str (Str.ofString ("/claim/cut.py")) ((539 : Nat))) :: (Value.int (113) ((0 : Nat))) :: (Value.int (1) ((0 : Nat))) :: (Value.int (0) ((0 : Nat))) :: (Value.int (0) ((0 : Nat))) :: (Value.int (3) ((0 : Nat))) :: (Value.ref ((186 : Nat))) :: (Value.bool (Bool.true)) :: (Value.int (276) ((0 : Nat))) :: (Value.ref ((187 : Nat))) :: (Value.none) :: (Value.ref ((188 : Nat))) :: (Value.ref ((189 : Nat))) :: (Value.ref ((190 : Nat))) :: (Value.int (541) ((0 : Nat))) :: (Value.int (113) ((0 : Nat))) :: (Value.str (Str.ofString ("/claim/cut.py")) ((542 : Nat))) :: [])))) (#[])
noncomputable def o136K (P : Params) : Obj := Obj.mk (Value.type ("function")) (@Option.none Nat) (Data.func (FuncData.mk (Str.ofString ("__repr__")) (Str.ofString ("Headers.__repr__")) m12x12p (FuncBody.stmts m12x12b) m12x12s ((3 : Nat)) (@List.nil (Str × Nat)) (Value.none) (Value.none) (Value.none) (Value.str (Str.ofString ("cpy313.wsgiref.headers")) ((367 : Nat))) (@Option.none Nat) (Value.ref ((191 : Nat))) (Value.none) ((0 : Nat)))) (#[])
noncomputable def o137K (P : Params) : Obj := Obj.mk (Value.none) (@Option.none Nat) (Data.func (FuncData.mk (Str.ofString ("__str__")) (Str.ofString ("Headers.__str__")) m12x13p (FuncBody.stmts m12x13b) m12x13s ((0 : Nat)) (@List.nil (Str × Nat)) (Value.none) (Value.none) (Value.none) (Value.none) (@Option.none Nat) (Value.none) (Value.none) ((0 : Nat)))) (#[])
noncomputable def o138K (P : Params) : Obj := Obj.mk (Value.type ("code")) (@Option.none Nat) (Data.fields ((List.toArray ((Value.str (Str.ofString ("__str__")) ((544 : Nat))) :: (Value.str (Str.ofString ("Headers.__str__")) ((545 : Nat))) :: (Value.str (Str.ofString ("/claim/cut.py")) ((546 : Nat))) :: (Value.int (116) ((0 : Nat))) :: (Value.int (1) ((0 : Nat))) :: (Value.int (0) ((0 : Nat))) :: (Value.int (0) ((0 : Nat))) :: (Value.int (3) ((0 : Nat))) :: (Value.ref ((193 : Nat))) :: (Value.bool (Bool.true)) :: (Value.int (276) ((0 : Nat))) :: (Value.ref ((194 : Nat))) :: (Value.none) :: (Value.none) :: (Value.none) :: (Value.ref ((195 : Nat))) :: (Value.int (547) ((0 : Nat))) :: (Value.int (116) ((0 : Nat))) :: (Value.str (Str.ofString ("/claim/cut.py")) ((548 : Nat))) :: [])))) (#[])
noncomputable def o139K (P : Params) : Obj := Obj.mk (Value.type ("function")) (@Option.none Nat) (Data.func (FuncData.mk (Str.ofString ("__str__")) (Str.ofString ("Headers.__str__")) m12x13p (FuncBody.stmts m12x13b) m12x13s ((3 : Nat)) (@List.nil (Str × Nat)) (Value.none) (Value.none) (Value.none) (Value.str (Str.ofString ("cpy313.wsgiref.headers")) ((367 : Nat))) (@Option.none Nat) (Value.ref ((196 : Nat))) (Value.none) ((0 : Nat)))) (#[])
noncomputable def o140K (P : Params) : Obj := Obj.mk (Value.type ("tuple")) (@Option.none Nat) (Data.seq (#[Value.str (Str.ofString ("self")) ((553 : Nat))]) ((0 : Nat))) (#[])
noncomputable def o141K (P : Params) : Obj := Obj.mk (Value.none) (@Option.none Nat) (Data.func (FuncData.mk (Str.ofString ("__bytes__")) (Str.ofString ("Headers.__bytes__")) m12x14p (FuncBody.stmts m12x14b) m12x14s ((0 : Nat)) (@List.nil (Str × Nat)) (Value.none) (Value.none) (Value.none) (Value.none) (@Option.none Nat) (Value.none) (Value.none) ((0 : Nat)))) (#[])
noncomputable def o142K (P : Params) : Obj := Obj.mk (Value.type ("code")) (@Option.none Nat) (Data.fields ((List.toArray ((Value.str (Str.ofString ("__bytes__")) ((550 : Nat))) :: (Value.str (Str.ofString ("Headers.__bytes__")) ((551 : Nat))) :: (Value.str (Str.ofString ("/claim/cut.py")) ((552 : Nat))) :: (Value.int (119) ((0 : Nat))) :: (Value.int (1) ((0 : Nat))) :: (Value.int (0) ((0 : Nat))) :: (Value.int (0) ((0 : Nat))) :: (Value.int (3) ((0 : Nat))) :: (Value.ref ((198 : Nat))) :: (Value.bool (Bool.true)) :: (Value.int (276) ((0 : Nat))) :: (Value.ref ((199 : Nat))) :: (Value.none) :: (Value.ref ((200 : Nat))) :: (Value.ref ((201 : Nat))) :: (Value.ref ((202 : Nat))) :: (Value.int (554) ((0 : Nat))) :: (Value.int (119) ((0 : Nat))) :: (Value.str (Str.ofString ("/claim/cut.py")) ((555 : Nat))) :: [])))) (#[])
noncomputable def o143K (P : Params) : Obj := Obj.mk (Value.type ("function")) (@Option.none Nat) (Data.func (FuncData.mk (Str.ofString ("__bytes__")) (Str.ofString ("Headers.__bytes__")) m12x14p (FuncBody.stmts m12x14b) m12x14s ((3 : Nat)) (@List.nil (Str × Nat)) (Value.none) (Value.none) (Value.none) (Value.str (Str.ofString ("cpy313.wsgiref.headers")) ((367 : Nat))) (@Option.none Nat) (Value.ref ((203 : Nat))) (Value.none) ((0 : Nat)))) (#[])
noncomputable def o144K (P : Params) : Obj := Obj.mk (Value.type ("tuple")) (@Option.none Nat) (Data.seq (#[Value.str (Str.ofString ("self")) ((560 : Nat)), Value.str (Str.ofString ("name")) ((561 : Nat)), Value.str (Str.ofString ("value")) ((562 : Nat))]) ((0 : Nat))) (#[])
noncomputable def o145K (P : Params) : Obj := Obj.mk (Value.none) (@Option.none Nat) (Data.func (FuncData.mk (Str.ofString ("setdefault")) (Str.ofString ("Headers.setdefault")) m12x15p (FuncBody.stmts m12x15b) m12x15s ((0 : Nat)) (@List.nil (Str × Nat)) (Value.none) (Value.none) (Value.none) (Value.none) (@Option.none Nat) (Value.none) (Value.none) ((0 : Nat)))) (#[])
noncomputable def o146K (P : Params) : Obj := Obj.mk (Value.type ("code")) (@Option.none Nat) (Data.fields ((List.toArray ((Value.str (Str.ofString ("setdefault")) ((557 : Nat))) :: (Value.str (Str.ofString ("Headers.setdefault")) ((558 : Nat))) :: (Value.str (Str.ofString ("/claim/cut.py")) ((559 : Nat))) :: (Value.int (122) ((0 : Nat))) :: (Value.int (3) ((0 : Nat))) :: (Value.int (0) ((0 : Nat))) :: (Value.int (0) ((0 : Nat))) :: (Value.int (3) ((0 : Nat))) :: (Value.ref ((205 : Nat))) :: (Value.bool (Bool.true)) :: (Value.int (276) ((0 : Nat))) :: (Value.ref ((206 : Nat))) :: (Value.none) :: (Value.ref ((207 : Nat))) :: (Value.ref ((208 : Nat))) :: (Value.ref ((209 : Nat))) :: (Value.int (563) ((0 : Nat))) :: (Value.int (122) ((0 : Nat))) :: (Value.str (Str.ofString ("/claim/cut.py")) ((564 : Nat))) :: [])))) (#[])
noncomputable def o147K (P : Params) : Obj := Obj.mk (Value.type ("function")) (@Option.none Nat) (Data.func (FuncData.mk (Str.ofString ("setdefault")) (Str.ofString ("Headers.setdefault")) m12x15p (FuncBody.stmts m12x15b) m12x15s ((3 : Nat)) (@List.nil (Str × Nat)) (Value.none) (Value.none) (Value.none) (Value.str (Str.ofString ("cpy313.wsgiref.headers")) ((367 : Nat))) (@Option.none Nat) (Value.ref ((210 : Nat))) (Value.none) ((0 : Nat)))) (#[])
noncomputable def o148K (P : Params) : Obj := Obj.mk (Value.type ("tuple")) (@Option.none Nat) (Data.seq (#[Value.str (Str.ofString ("self")) ((569 : Nat)), Value.str (Str.ofString ("_name")) ((570 : Nat)), Value.str (Str.ofString ("_value")) ((571 : Nat)), Value.str (Str.ofString ("_params")) ((572 : Nat))]) ((0 : Nat))) (#[])
noncomputable def o149K (P : Params) : Obj := Obj.mk (Value.none) (@Option.none Nat) (Data.func (FuncData.mk (Str.ofString ("add_header")) (Str.ofString ("Headers.add_header")) m12x16p (FuncBody.stmts m12x16b) m12x16s ((0 : Nat)) (@List.nil (Str × Nat)) (Value.none) (Value.none) (Value.none) (Value.none) (@Option.none Nat) (Value.none) (Value.none) ((0 : Nat)))) (#[])
noncomputable def o150K (P : Params) : Obj := Obj.mk (Value.type ("code")) (@Option.none Nat) (Data.fields ((List.toArray ((Value.str (Str.ofString ("add_header")) ((566 : Nat))) :: (Value.str (Str.ofString ("Headers.add_header")) ((567 : Nat))) :: (Value.str (Str.ofString ("/claim/cut.py")) ((568 : Nat))) :: (Value.int (125) ((0 : Nat))) :: (Value.int (3) ((0 : Nat))) :: (Value.int (0) ((0 : Nat))) :: (Value.int (0) ((0 : Nat))) :: (Value.int (11) ((0 : Nat))) :: (Value.ref ((212 : Nat))) :: (Value.bool (Bool.true)) :: (Value.int (276) ((0 : Nat))) :: (Value.ref ((213 : Nat))) :: (Value.none) :: (Value.ref ((214 : Nat))) :: (Value.ref ((215 : Nat))) :: (Value.ref ((216 : Nat))) :: (Value.int (573) ((0 : Nat))) :: (Value.int (125) ((0 : Nat))) :: (Value.str (Str.ofString ("/claim/cut.py")) ((574 : Nat))) :: [])))) (#[])
noncomputable def o151K (P : Params) : Obj := Obj.mk (Value.type ("function")) (@Option.none Nat) (Data.func (FuncData.mk (Str.ofString ("add_header")) (Str.ofString ("Headers.add_header")) m12x16p (FuncBody.stmts m12x16b) m12x16s ((3 : Nat)) (@List.nil (Str × Nat)) (Value.none) (Value.none) (Value.none) (Value.str (Str.ofString ("cpy313.wsgiref.headers")) ((367 : Nat))) (@Option.none Nat) (Value.ref ((217 : Nat))) (Value.none) ((0 : Nat)))) (#[])
noncomputable def o152K (P : Params) : Obj := Obj.mk (Value.type ("tuple")) (@Option.none Nat) (Data.seq (#[Value.str (Str.ofString ("_headers")) ((576 : Nat))]) ((0 : Nat))) (#[])
noncomputable def o153K (P : Params) : Obj := Obj.mk (Value.type ("dict")) (@Option.none Nat) (Data.dict ((List.toArray ((kE P "__module__" (436 : Nat) (Value.str (Str.ofString ("cpy313.wsgiref.headers")) ((367 : Nat)))) :: (kE P "__firstlineno__" (440 : Nat) (Value.int (57) ((439 : Nat)))) :: (kE P "__init__" (450 : Nat) (Value.ref ((113 : Nat)))) :: (kE P "_convert_string_type" (460 : Nat) (Value.ref ((120 : Nat)))) :: (kE P "__len__" (467 : Nat) (Value.ref ((127 : Nat)))) :: (kE P "__setitem__" (476 : Nat) (Value.ref ((134 : Nat)))) :: (kE P "__delitem__" (482 : Nat) (Value.ref ((139 : Nat)))) :: (kE P "__getitem__" (490 : Nat) (Value.ref ((146 : Nat)))) :: (kE P "__contains__" (498 : Nat) (Value.ref ((153 : Nat)))) :: (kE P "get_all" (506 : Nat) (Value.ref ((160 : Nat)))) :: (kE P "get" (517 : Nat) (Value.ref ((168 : Nat)))) :: (kE P "keys" (523 : Nat) (Value.ref ((173 : Nat)))) :: (kE P "values" (529 : Nat) (Value.ref ((178 : Nat)))) :: (kE P "items" (536 : Nat) (Value.ref ((185 : Nat)))) :: (kE P "__repr__" (543 : Nat) (Value.ref ((192 : Nat)))) :: (kE P "__str__" (549 : Nat) (Value.ref ((197 : Nat)))) :: (kE P "__bytes__" (556 : Nat) (Value.ref ((204 : Nat)))) :: (kE P "setdefault" (565 : Nat) (Value.ref ((211 : Nat)))) :: (kE P "add_header" (575 : Nat) (Value.ref ((218 : Nat)))) :: (kE P "__static_attributes__" (577 : Nat) (Value.ref ((219 : Nat)))) :: (kE P "__dict__" (579 : Nat) (Value.ref ((222 : Nat)))) :: (kE P "__weakref__" (581 : Nat) (Value.ref ((223 : Nat)))) :: (kE P "__doc__" (582 : Nat) (Value.none)) :: []))) ((4 : Nat))) (#[])
noncomputable def o154K (P : Params) : Obj := Obj.mk (Value.type ("type")) (@Option.none Nat) (Data.cls (ClassData.mk (Str.ofString ("Headers")) ([Value.type ("object")]) ([Value.ref ((221 : Nat)), Value.type ("object")]) ((220 : Nat)) (Str.ofString ("Headers")) (Bool.true) ([]) ([]) (Bool.false) (Option.none) (Bool.false))) (#[Option.none, Option.none, Option.some (Value.str (Str.ofString ("Headers")) ((429 : Nat))), Option.some (Value.str (Str.ofString ("Headers")) ((437 : Nat))), Option.some (Value.builtin ("object.__new__")), Option.some (Value.bool (Bool.true))])
noncomputable def o155K (P : Params) : Obj := Obj.mk (Value.type ("getset_descriptor")) (@Option.none Nat) (Data.fields (#[Value.str (Str.ofString ("__dict__")) ((578 : Nat)), Value.ref ((221 : Nat)), Value.builtin ("function.__dict__"), Value.builtin ("function.__dict__#set")])) (#[])
noncomputable def o156K (P : Params) : Obj := Obj.mk (Value.type ("getset_descriptor")) (@Option.none Nat) (Data.fields (#[Value.str (Str.ofString ("__weakref__")) ((580 : Nat)), Value.ref ((221 : Nat)), Value.builtin ("ExceptionGroup.__weakref__"), Value.none])) (#[])
noncomputable def o157K (P : Params) : Obj := Obj.mk (Value.type ("super")) (@Option.none Nat) (Data.fields (#[Value.ref ((221 : Nat)), Value.ref ((221 : Nat)), Value.ref ((221 : Nat))])) (#[])
noncomputable def o158K (P : Params) : Obj := Obj.mk (Value.type ("builtin_function_or_method")) (@Option.none Nat) (Data.fields (#[Value.builtin ("object.__init_subclass__"), Value.ref ((221 : Nat))])) (#[])
noncomputable def o159K (P : Params) : Obj := Obj.mk (Value.type ("dict")) (@Option.none Nat) (Data.dict ((List.toArray ((kE P "__name__" (165 : Nat) (Value.str (Str.ofString ("law_ux0026_01")) ((585 : Nat)))) :: (kE P "__doc__" (166 : Nat) (Value.none)) :: (kE P "__package__" (167 : Nat) (Value.none)) :: (kE P "__loader__" (168 : Nat) (Value.builtin ("__main__.__loader__#opaque"))) :: (kE P "__spec__" (169 : Nat) (Value.none)) :: (kE P "__annotations__" (170 : Nat) (Value.ref ((6 : Nat)))) :: (kE P "__builtins__" (171 : Nat) (Value.ref ((4 : Nat)))) :: (kE P "__file__" (173 : Nat) (Value.str (Str.ofString ("/claim/cut.py")) ((172 : Nat)))) :: (kE P "__cached__" (174 : Nat) (Value.none)) :: (kE P "_sre" (275 : Nat) (Value.ref ((12 : Nat)))) :: (kE P "_wall" (288 : Nat) (Value.ref ((38 : Nat)))) :: (kE P "insort_right" (303 : Nat) (Value.ref ((47 : Nat)))) :: (kE P "bisect_right" (317 : Nat) (Value.ref ((56 : Nat)))) :: (kE P "Error" (339 : Nat) (Value.ref ((66 : Nat)))) :: (kE P "error_reply" (355 : Nat) (Value.ref ((79 : Nat)))) :: (kE P "parse257" (366 : Nat) (Value.ref ((88 : Nat)))) :: (kE P "_name_disallowed_re" (394 : Nat) (Value.ref ((93 : Nat)))) :: (kE P "_value_disallowed_re" (428 : Nat) (Value.ref ((98 : Nat)))) :: (kE P "Headers" (584 : Nat) (Value.ref ((221 : Nat)))) :: (kE P "_law_cells" (595 : Nat) (Value.ref ((232 : Nat)))) :: (kE P "_law_part" (607 : Nat) (Value.ref ((239 : Nat)))) :: (kE P "_law_rows" (620 : Nat) (Value.ref ((246 : Nat)))) :: (kE P "_law_order" (630 : Nat) (Value.ref ((253 : Nat)))) :: (kE P "_law_ring" (636 : Nat) (Value.ref ((258 : Nat)))) :: (kE P "_law_due" (642 : Nat) (Value.ref ((263 : Nat)))) :: (kE P "_law_refused" (649 : Nat) (Value.ref ((270 : Nat)))) :: (kE P "law" (655 : Nat) (Value.ref ((275 : Nat)))) :: []))) ((27 : Nat))) (#[])
noncomputable def o160K (P : Params) : Obj := Obj.mk (Value.none) (@Option.none Nat) (Data.fields ((List.toArray ((Value.int (2) ((0 : Nat))) :: (Value.int (0) ((0 : Nat))) :: (Value.ref ((37 : Nat))) :: (Value.int (6) ((0 : Nat))) :: (Value.int (0) ((0 : Nat))) :: (Value.ref ((46 : Nat))) :: (Value.int (12) ((0 : Nat))) :: (Value.int (0) ((0 : Nat))) :: (Value.ref ((55 : Nat))) :: (Value.int (33) ((0 : Nat))) :: (Value.int (0) ((0 : Nat))) :: (Value.ref ((62 : Nat))) :: (Value.int (35) ((0 : Nat))) :: (Value.int (0) ((0 : Nat))) :: (Value.ref ((75 : Nat))) :: (Value.int (37) ((0 : Nat))) :: (Value.int (0) ((0 : Nat))) :: (Value.ref ((87 : Nat))) :: (Value.int (57) ((0 : Nat))) :: (Value.int (0) ((0 : Nat))) :: (Value.ref ((104 : Nat))) :: (Value.int (128) ((0 : Nat))) :: (Value.int (0) ((0 : Nat))) :: (Value.ref ((231 : Nat))) :: (Value.int (132) ((0 : Nat))) :: (Value.int (0) ((0 : Nat))) :: (Value.ref ((238 : Nat))) :: (Value.int (139) ((0 : Nat))) :: (Value.int (0) ((0 : Nat))) :: (Value.ref ((245 : Nat))) :: (Value.int (147) ((0 : Nat))) :: (Value.int (0) ((0 : Nat))) :: (Value.ref ((252 : Nat))) :: (Value.int (154) ((0 : Nat))) :: (Value.int (0) ((0 : Nat))) :: (Value.ref ((257 : Nat))) :: (Value.int (167) ((0 : Nat))) :: (Value.int (0) ((0 : Nat))) :: (Value.ref ((262 : Nat))) :: (Value.int (185) ((0 : Nat))) :: (Value.int (0) ((0 : Nat))) :: (Value.ref ((269 : Nat))) :: (Value.int (191) ((0 : Nat))) :: (Value.int (0) ((0 : Nat))) :: (Value.ref ((274 : Nat))) :: [])))) (#[])
noncomputable def o161K (P : Params) : Obj := Obj.mk (Value.type ("tuple")) (@Option.none Nat) (Data.seq (#[Value.str (Str.ofString ("script")) ((590 : Nat)), Value.str (Str.ofString ("cells")) ((591 : Nat)), Value.str (Str.ofString ("place")) ((592 : Nat))]) ((0 : Nat))) (#[])
noncomputable def o162K (P : Params) : Obj := Obj.mk (Value.none) (@Option.none Nat) (Data.func (FuncData.mk (Str.ofString ("_law_cells")) (Str.ofString ("_law_cells")) f14p (FuncBody.stmts f14b) f14s ((0 : Nat)) (@List.nil (Str × Nat)) (Value.none) (Value.none) (Value.none) (Value.none) (@Option.none Nat) (Value.none) (Value.none) ((0 : Nat)))) (#[])
noncomputable def o163K (P : Params) : Obj := Obj.mk (Value.type ("code")) (@Option.none Nat) (Data.fields ((List.toArray ((Value.str (Str.ofString ("_law_cells")) ((587 : Nat))) :: (Value.str (Str.ofString ("_law_cells")) ((588 : Nat))) :: (Value.str (Str.ofString ("/claim/cut.py")) ((589 : Nat))) :: (Value.int (128) ((0 : Nat))) :: (Value.int (2) ((0 : Nat))) :: (Value.int (0) ((0 : Nat))) :: (Value.int (0) ((0 : Nat))) :: (Value.int (3) ((0 : Nat))) :: (Value.ref ((226 : Nat))) :: (Value.bool (Bool.true)) :: (Value.int (276) ((0 : Nat))) :: (Value.ref ((227 : Nat))) :: (Value.none) :: (Value.ref ((228 : Nat))) :: (Value.ref ((229 : Nat))) :: (Value.ref ((230 : Nat))) :: (Value.int (593) ((0 : Nat))) :: (Value.int (128) ((0 : Nat))) :: (Value.str (Str.ofString ("/claim/cut.py")) ((594 : Nat))) :: [])))) (#[])
noncomputable def o164K (P : Params) : Obj := Obj.mk (Value.type ("function")) (@Option.none Nat) (Data.func (FuncData.mk (Str.ofString ("_law_cells")) (Str.ofString ("_law_cells")) f14p (FuncBody.stmts f14b) f14s ((3 : Nat)) (@List.nil (Str × Nat)) (Value.none) (Value.none) (Value.none) (Value.str (Str.ofString ("law_ux0026_01")) ((585 : Nat))) (@Option.none Nat) (Value.ref ((231 : Nat))) (Value.none) ((0 : Nat)))) (#[])
noncomputable def o165K (P : Params) : Obj := Obj.mk (Value.type ("tuple")) (@Option.none Nat) (Data.seq (#[Value.str (Str.ofString ("number")) ((599 : Nat)), Value.str (Str.ofString ("readings")) ((600 : Nat)), Value.str (Str.ofString ("letter")) ((601 : Nat)), Value.str (Str.ofString ("tail")) ((602 : Nat)), Value.str (Str.ofString ("turn")) ((603 : Nat)), Value.str (Str.ofString ("told")) ((604 : Nat))]) ((0 : Nat))) (#[])
noncomputable def o166K (P : Params) : Obj := Obj.mk (Value.none) (@Option.none Nat) (Data.func (FuncData.mk (Str.ofString ("_law_part")) (Str.ofString ("_law_part")) f15p (FuncBody.stmts f15b) f15s ((0 : Nat)) (@List.nil (Str × Nat)) (Value.none) (Value.none) (Value.none) (Value.none) (@Option.none Nat) (Value.none) (Value.none) ((0 : Nat)))) (#[])
noncomputable def o167K (P : Params) : Obj := Obj.mk (Value.type ("code")) (@Option.none Nat) (Data.fields ((List.toArray ((Value.str (Str.ofString ("_law_part")) ((596 : Nat))) :: (Value.str (Str.ofString ("_law_part")) ((597 : Nat))) :: (Value.str (Str.ofString ("/claim/cut.py")) ((598 : Nat))) :: (Value.int (132) ((0 : Nat))) :: (Value.int (4) ((0 : Nat))) :: (Value.int (0) ((0 : Nat))) :: (Value.int (0) ((0 : Nat))) :: (Value.int (3) ((0 : Nat))) :: (Value.ref ((233 : Nat))) :: (Value.bool (Bool.true)) :: (Value.int (276) ((0 : Nat))) :: (Value.ref ((234 : Nat))) :: (Value.none) :: (Value.ref ((235 : Nat))) :: (Value.ref ((236 : Nat))) :: (Value.ref ((237 : Nat))) :: (Value.int (605) ((0 : Nat))) :: (Value.int (132) ((0 : Nat))) :: (Value.str (Str.ofString ("/claim/cut.py")) ((606 : Nat))) :: [])))) (#[])
noncomputable def o168K (P : Params) : Obj := Obj.mk (Value.type ("function")) (@Option.none Nat) (Data.func (FuncData.mk (Str.ofString ("_law_part")) (Str.ofString ("_law_part")) f15p (FuncBody.stmts f15b) f15s ((3 : Nat)) (@List.nil (Str × Nat)) (Value.none) (Value.none) (Value.none) (Value.str (Str.ofString ("law_ux0026_01")) ((585 : Nat))) (@Option.none Nat) (Value.ref ((238 : Nat))) (Value.none) ((0 : Nat)))) (#[])
noncomputable def o169K (P : Params) : Obj := Obj.mk (Value.type ("tuple")) (@Option.none Nat) (Data.seq (#[Value.str (Str.ofString ("step")) ((611 : Nat)), Value.str (Str.ofString ("readings")) ((612 : Nat)), Value.str (Str.ofString ("letter")) ((613 : Nat)), Value.str (Str.ofString ("tail")) ((614 : Nat)), Value.str (Str.ofString ("rows")) ((615 : Nat)), Value.str (Str.ofString ("left")) ((616 : Nat)), Value.str (Str.ofString ("row")) ((617 : Nat))]) ((0 : Nat))) (#[])
noncomputable def o170K (P : Params) : Obj := Obj.mk (Value.none) (@Option.none Nat) (Data.func (FuncData.mk (Str.ofString ("_law_rows")) (Str.ofString ("_law_rows")) f16p (FuncBody.stmts f16b) f16s ((0 : Nat)) (@List.nil (Str × Nat)) (Value.none) (Value.none) (Value.none) (Value.none) (@Option.none Nat) (Value.none) (Value.none) ((0 : Nat)))) (#[])
noncomputable def o171K (P : Params) : Obj := Obj.mk (Value.type ("code")) (@Option.none Nat) (Data.fields ((List.toArray ((Value.str (Str.ofString ("_law_rows")) ((608 : Nat))) :: (Value.str (Str.ofString ("_law_rows")) ((609 : Nat))) :: (Value.str (Str.ofString ("/claim/cut.py")) ((610 : Nat))) :: (Value.int (139) ((0 : Nat))) :: (Value.int (4) ((0 : Nat))) :: (Value.int (0) ((0 : Nat))) :: (Value.int (0) ((0 : Nat))) :: (Value.int (3) ((0 : Nat))) :: (Value.ref ((240 : Nat))) :: (Value.bool (Bool.true)) :: (Value.int (276) ((0 : Nat))) :: (Value.ref ((241 : Nat))) :: (Value.none) :: (Value.ref ((242 : Nat))) :: (Value.ref ((243 : Nat))) :: (Value.ref ((244 : Nat))) :: (Value.int (618) ((0 : Nat))) :: (Value.int (139) ((0 : Nat))) :: (Value.str (Str.ofString ("/claim/cut.py")) ((619 : Nat))) :: [])))) (#[])
noncomputable def o172K (P : Params) : Obj := Obj.mk (Value.type ("function")) (@Option.none Nat) (Data.func (FuncData.mk (Str.ofString ("_law_rows")) (Str.ofString ("_law_rows")) f16p (FuncBody.stmts f16b) f16s ((3 : Nat)) (@List.nil (Str × Nat)) (Value.none) (Value.none) (Value.none) (Value.str (Str.ofString ("law_ux0026_01")) ((585 : Nat))) (@Option.none Nat) (Value.ref ((245 : Nat))) (Value.none) ((0 : Nat)))) (#[])
noncomputable def o173K (P : Params) : Obj := Obj.mk (Value.type ("tuple")) (@Option.none Nat) (Data.seq (#[Value.str (Str.ofString ("rows")) ((624 : Nat)), Value.str (Str.ofString ("order")) ((625 : Nat)), Value.str (Str.ofString ("row")) ((626 : Nat)), Value.str (Str.ofString ("number")) ((627 : Nat))]) ((0 : Nat))) (#[])
noncomputable def o174K (P : Params) : Obj := Obj.mk (Value.none) (@Option.none Nat) (Data.func (FuncData.mk (Str.ofString ("_law_order")) (Str.ofString ("_law_order")) f17p (FuncBody.stmts f17b) f17s ((0 : Nat)) (@List.nil (Str × Nat)) (Value.none) (Value.none) (Value.none) (Value.none) (@Option.none Nat) (Value.none) (Value.none) ((0 : Nat)))) (#[])
noncomputable def o175K (P : Params) : Obj := Obj.mk (Value.type ("code")) (@Option.none Nat) (Data.fields ((List.toArray ((Value.str (Str.ofString ("_law_order")) ((621 : Nat))) :: (Value.str (Str.ofString ("_law_order")) ((622 : Nat))) :: (Value.str (Str.ofString ("/claim/cut.py")) ((623 : Nat))) :: (Value.int (147) ((0 : Nat))) :: (Value.int (1) ((0 : Nat))) :: (Value.int (0) ((0 : Nat))) :: (Value.int (0) ((0 : Nat))) :: (Value.int (3) ((0 : Nat))) :: (Value.ref ((247 : Nat))) :: (Value.bool (Bool.true)) :: (Value.int (276) ((0 : Nat))) :: (Value.ref ((248 : Nat))) :: (Value.none) :: (Value.ref ((249 : Nat))) :: (Value.ref ((250 : Nat))) :: (Value.ref ((251 : Nat))) :: (Value.int (628) ((0 : Nat))) :: (Value.int (147) ((0 : Nat))) :: (Value.str (Str.ofString ("/claim/cut.py")) ((629 : Nat))) :: [])))) (#[])
noncomputable def o176K (P : Params) : Obj := Obj.mk (Value.type ("function")) (@Option.none Nat) (Data.func (FuncData.mk (Str.ofString ("_law_order")) (Str.ofString ("_law_order")) f17p (FuncBody.stmts f17b) f17s ((3 : Nat)) (@List.nil (Str × Nat)) (Value.none) (Value.none) (Value.none) (Value.str (Str.ofString ("law_ux0026_01")) ((585 : Nat))) (@Option.none Nat) (Value.ref ((252 : Nat))) (Value.none) ((0 : Nat)))) (#[])
noncomputable def o177K (P : Params) : Obj := Obj.mk (Value.none) (@Option.none Nat) (Data.func (FuncData.mk (Str.ofString ("_law_ring")) (Str.ofString ("_law_ring")) f18p (FuncBody.stmts f18b) f18s ((0 : Nat)) (@List.nil (Str × Nat)) (Value.none) (Value.none) (Value.none) (Value.none) (@Option.none Nat) (Value.none) (Value.none) ((0 : Nat)))) (#[])
noncomputable def o178K (P : Params) : Obj := Obj.mk (Value.type ("code")) (@Option.none Nat) (Data.fields ((List.toArray ((Value.str (Str.ofString ("_law_ring")) ((631 : Nat))) :: (Value.str (Str.ofString ("_law_ring")) ((632 : Nat))) :: (Value.str (Str.ofString ("/claim/cut.py")) ((633 : Nat))) :: (Value.int (154) ((0 : Nat))) :: (Value.int (2) ((0 : Nat))) :: (Value.int (0) ((0 : Nat))) :: (Value.int (0) ((0 : Nat))) :: (Value.int (3) ((0 : Nat))) :: (Value.ref ((254 : Nat))) :: (Value.bool (Bool.true)) :: (Value.int (276) ((0 : Nat))) :: (Value.ref ((255 : Nat))) :: (Value.none) :: (Value.none) :: (Value.none) :: (Value.ref ((256 : Nat))) :: (Value.int (634) ((0 : Nat))) :: (Value.int (154) ((0 : Nat))) :: (Value.str (Str.ofString ("/claim/cut.py")) ((635 : Nat))) :: [])))) (#[])
noncomputable def o179K (P : Params) : Obj := Obj.mk (Value.type ("function")) (@Option.none Nat) (Data.func (FuncData.mk (Str.ofString ("_law_ring")) (Str.ofString ("_law_ring")) f18p (FuncBody.stmts f18b) f18s ((3 : Nat)) (@List.nil (Str × Nat)) (Value.none) (Value.none) (Value.none) (Value.str (Str.ofString ("law_ux0026_01")) ((585 : Nat))) (@Option.none Nat) (Value.ref ((257 : Nat))) (Value.none) ((0 : Nat)))) (#[])
noncomputable def o180K (P : Params) : Obj := Obj.mk (Value.none) (@Option.none Nat) (Data.func (FuncData.mk (Str.ofString ("_law_due")) (Str.ofString ("_law_due")) f19p (FuncBody.stmts f19b) f19s ((0 : Nat)) (@List.nil (Str × Nat)) (Value.none) (Value.none) (Value.none) (Value.none) (@Option.none Nat) (Value.none) (Value.none) ((0 : Nat)))) (#[])
noncomputable def o181K (P : Params) : Obj := Obj.mk (Value.type ("code")) (@Option.none Nat) (Data.fields ((List.toArray ((Value.str (Str.ofString ("_law_due")) ((637 : Nat))) :: (Value.str (Str.ofString ("_law_due")) ((638 : Nat))) :: (Value.str (Str.ofString ("/claim/cut.py")) ((639 : Nat))) :: (Value.int (167) ((0 : Nat))) :: (Value.int (3) ((0 : Nat))) :: (Value.int (0) ((0 : Nat))) :: (Value.int (0) ((0 : Nat))) :: (Value.int (3) ((0 : Nat))) :: (Value.ref ((259 : Nat))) :: (Value.bool (Bool.true)) :: (Value.int (276) ((0 : Nat))) :: (Value.ref ((260 : Nat))) :: (Value.none) :: (Value.none) :: (Value.none) :: (Value.ref ((261 : Nat))) :: (Value.int (640) ((0 : Nat))) :: (Value.int (167) ((0 : Nat))) :: (Value.str (Str.ofString ("/claim/cut.py")) ((641 : Nat))) :: [])))) (#[])
noncomputable def o182K (P : Params) : Obj := Obj.mk (Value.type ("function")) (@Option.none Nat) (Data.func (FuncData.mk (Str.ofString ("_law_due")) (Str.ofString ("_law_due")) f19p (FuncBody.stmts f19b) f19s ((3 : Nat)) (@List.nil (Str × Nat)) (Value.none) (Value.none) (Value.none) (Value.str (Str.ofString ("law_ux0026_01")) ((585 : Nat))) (@Option.none Nat) (Value.ref ((262 : Nat))) (Value.none) ((0 : Nat)))) (#[])
noncomputable def o183K (P : Params) : Obj := Obj.mk (Value.type ("tuple")) (@Option.none Nat) (Data.seq (#[Value.str (Str.ofString ("reply")) ((646 : Nat))]) ((0 : Nat))) (#[])
noncomputable def o184K (P : Params) : Obj := Obj.mk (Value.none) (@Option.none Nat) (Data.func (FuncData.mk (Str.ofString ("_law_refused")) (Str.ofString ("_law_refused")) f20p (FuncBody.stmts f20b) f20s ((0 : Nat)) (@List.nil (Str × Nat)) (Value.none) (Value.none) (Value.none) (Value.none) (@Option.none Nat) (Value.none) (Value.none) ((0 : Nat)))) (#[])
noncomputable def o185K (P : Params) : Obj := Obj.mk (Value.type ("code")) (@Option.none Nat) (Data.fields ((List.toArray ((Value.str (Str.ofString ("_law_refused")) ((643 : Nat))) :: (Value.str (Str.ofString ("_law_refused")) ((644 : Nat))) :: (Value.str (Str.ofString ("/claim/cut.py")) ((645 : Nat))) :: (Value.int (185) ((0 : Nat))) :: (Value.int (1) ((0 : Nat))) :: (Value.int (0) ((0 : Nat))) :: (Value.int (0) ((0 : Nat))) :: (Value.int (3) ((0 : Nat))) :: (Value.ref ((264 : Nat))) :: (Value.bool (Bool.true)) :: (Value.int (276) ((0 : Nat))) :: (Value.ref ((265 : Nat))) :: (Value.none) :: (Value.ref ((266 : Nat))) :: (Value.ref ((267 : Nat))) :: (Value.ref ((268 : Nat))) :: (Value.int (647) ((0 : Nat))) :: (Value.int (185) ((0 : Nat))) :: (Value.str (Str.ofString ("/claim/cut.py")) ((648 : Nat))) :: [])))) (#[])
noncomputable def o186K (P : Params) : Obj := Obj.mk (Value.type ("function")) (@Option.none Nat) (Data.func (FuncData.mk (Str.ofString ("_law_refused")) (Str.ofString ("_law_refused")) f20p (FuncBody.stmts f20b) f20s ((3 : Nat)) (@List.nil (Str × Nat)) (Value.none) (Value.none) (Value.none) (Value.str (Str.ofString ("law_ux0026_01")) ((585 : Nat))) (@Option.none Nat) (Value.ref ((269 : Nat))) (Value.none) ((0 : Nat)))) (#[])
noncomputable def o187K (P : Params) : Obj := Obj.mk (Value.none) (@Option.none Nat) (Data.func (FuncData.mk (Str.ofString ("law")) (Str.ofString ("law")) f21p (FuncBody.stmts f21b) f21s ((0 : Nat)) (@List.nil (Str × Nat)) (Value.none) (Value.none) (Value.none) (Value.none) (@Option.none Nat) (Value.none) (Value.none) ((0 : Nat)))) (#[])
noncomputable def o188K (P : Params) : Obj := Obj.mk (Value.type ("code")) (@Option.none Nat) (Data.fields ((List.toArray ((Value.str (Str.ofString ("law")) ((650 : Nat))) :: (Value.str (Str.ofString ("law")) ((651 : Nat))) :: (Value.str (Str.ofString ("/claim/cut.py")) ((652 : Nat))) :: (Value.int (191) ((0 : Nat))) :: (Value.int (1) ((0 : Nat))) :: (Value.int (0) ((0 : Nat))) :: (Value.int (0) ((0 : Nat))) :: (Value.int (3) ((0 : Nat))) :: (Value.ref ((271 : Nat))) :: (Value.bool (Bool.true)) :: (Value.int (276) ((0 : Nat))) :: (Value.ref ((272 : Nat))) :: (Value.none) :: (Value.none) :: (Value.none) :: (Value.ref ((273 : Nat))) :: (Value.int (653) ((0 : Nat))) :: (Value.int (191) ((0 : Nat))) :: (Value.str (Str.ofString ("/claim/cut.py")) ((654 : Nat))) :: [])))) (#[])
noncomputable def o189K (P : Params) : Obj := Obj.mk (Value.type ("function")) (@Option.none Nat) (Data.func (FuncData.mk (Str.ofString ("law")) (Str.ofString ("law")) f21p (FuncBody.stmts f21b) f21s ((3 : Nat)) (@List.nil (Str × Nat)) (Value.none) (Value.none) (Value.none) (Value.str (Str.ofString ("law_ux0026_01")) ((585 : Nat))) (@Option.none Nat) (Value.ref ((274 : Nat))) (Value.none) ((0 : Nat)))) (#[])
noncomputable def He (x1 x2 : Str) (P : Params) : Heap := Heap.mk (Array.mk (o0K P :: o1K P :: o2K P :: o3K P :: o4K P :: o5K P :: o6K P :: o7K P :: o8K P :: o9K P :: o10K P :: o11K P :: o12K P :: o13K P :: o14K P :: o7K P :: o15K P :: o16K P :: o17K x1 x2 P :: o18K P :: o19K P :: o20K P :: o21K P :: o22K P :: o23K P :: o24K P :: o25K P :: o26K P :: [] : List Obj)) {}
noncomputable def H0 (x1 x2 : Str) (P : Params) : Heap := Heap.mk (Array.mk (o0K P :: o1K P :: o2K P :: o3K P :: o4K P :: o5K P :: o6K P :: o7K P :: o8K P :: o9K P :: o10K P :: o27K P :: o12K P :: o13K P :: o14K P :: o7K P :: o15K P :: o16K P :: o17K x1 x2 P :: o18K P :: o19K P :: o20K P :: o21K P :: o22K P :: o23K P :: o24K P :: o25K P :: o26K P :: [] : List Obj)) {}
noncomputable def Ha (x1 x2 : Str) (P : Params) : Heap := Heap.mk (Array.mk (o0K P :: o1K P :: o2K P :: o3K P :: o4K P :: o5K P :: o6K P :: o7K P :: o8K P :: o9K P :: o10K P :: o27K P :: o12K P :: o13K P :: o14K P :: o7K P :: o15K P :: o16K P :: o17K x1 x2 P :: o18K P :: o19K P :: o20K P :: o21K P :: o22K P :: o23K P :: o24K P :: o25K P :: o26K P :: o7K P :: o8K P :: o28K P :: o29K P :: [] : List Obj)) {}
noncomputable def Hb (x1 x2 : Str) (P : Params) : Heap := Heap.mk (Array.mk (o0K P :: o1K P :: o2K P :: o3K P :: o4K P :: o5K P :: o6K P :: o7K P :: o8K P :: o9K P :: o10K P :: o27K P :: o12K P :: o13K P :: o14K P :: o7K P :: o15K P :: o16K P :: o17K x1 x2 P :: o18K P :: o19K P :: o20K P :: o21K P :: o22K P :: o23K P :: o24K P :: o25K P :: o26K P :: o7K P :: o8K P :: o28K P :: o29K P :: [] : List Obj)) {}
noncomputable def Hg1 (x1 x2 : Str) (P : Params) : Heap := Heap.mk (Array.mk (o0K P :: o1K P :: o30K P :: o31K P :: o4K P :: o5K P :: o6K P :: o7K P :: o8K P :: o9K P :: o10K P :: o27K P :: o12K P :: o13K P :: o14K P :: o7K P :: o15K P :: o16K P :: o17K x1 x2 P :: o18K P :: o19K P :: o20K P :: o21K P :: o22K P :: o23K P :: o24K P :: o25K P :: o26K P :: o7K P :: o32K P :: o28K P :: o29K P :: o7K P :: o8K P :: o33K P :: o7K P :: o34K P :: o35K P :: o36K P :: o37K P :: o38K P :: o7K P :: o8K P :: o39K P :: o7K P :: o40K P :: o41K P :: o42K P :: o43K P :: o44K P :: o7K P :: o8K P :: o45K P :: o7K P :: o46K P :: o47K P :: o48K P :: o49K P :: o50K P :: o51K P :: o7K P :: o8K P :: o52K P :: o53K P :: o7K P :: o54K P :: o55K P :: o56K P :: o57K P :: o58K P :: [] : List Obj)) {}
noncomputable def Hg2 (x1 x2 : Str) (P : Params) : Heap := Heap.mk (Array.mk (o0K P :: o1K P :: o30K P :: o59K P :: o4K P :: o5K P :: o6K P :: o7K P :: o8K P :: o9K P :: o10K P :: o27K P :: o12K P :: o13K P :: o14K P :: o7K P :: o15K P :: o16K P :: o17K x1 x2 P :: o18K P :: o19K P :: o20K P :: o21K P :: o22K P :: o23K P :: o24K P :: o25K P :: o26K P :: o7K P :: o60K P :: o28K P :: o29K P :: o7K P :: o8K P :: o33K P :: o7K P :: o34K P :: o35K P :: o36K P :: o37K P :: o38K P :: o7K P :: o8K P :: o39K P :: o7K P :: o40K P :: o41K P :: o42K P :: o43K P :: o44K P :: o7K P :: o8K P :: o45K P :: o7K P :: o46K P :: o47K P :: o48K P :: o49K P :: o50K P :: o51K P :: o7K P :: o8K P :: o52K P :: o53K P :: o7K P :: o54K P :: o61K P :: o56K P :: o57K P :: o58K P :: o62K P :: o50K P :: o63K P :: o7K P :: o8K P :: o64K P :: o65K P :: o7K P :: o66K P :: o67K P :: o68K P :: o69K P :: o7K P :: o8K P :: o70K P :: o7K P :: o71K P :: o72K P :: o73K P :: o74K P :: o6K P :: o75K P :: o76K P :: o77K P :: [] : List Obj)) {}
noncomputable def Hg3 (x1 x2 : Str) (P : Params) : Heap := Heap.mk (Array.mk (o0K P :: o1K P :: o30K P :: o78K P :: o4K P :: o5K P :: o6K P :: o7K P :: o8K P :: o9K P :: o10K P :: o27K P :: o12K P :: o13K P :: o14K P :: o7K P :: o15K P :: o16K P :: o17K x1 x2 P :: o18K P :: o19K P :: o20K P :: o21K P :: o22K P :: o23K P :: o24K P :: o25K P :: o26K P :: o7K P :: o60K P :: o28K P :: o29K P :: o7K P :: o8K P :: o33K P :: o7K P :: o34K P :: o35K P :: o36K P :: o37K P :: o38K P :: o7K P :: o8K P :: o39K P :: o7K P :: o40K P :: o41K P :: o42K P :: o43K P :: o44K P :: o7K P :: o8K P :: o45K P :: o7K P :: o46K P :: o47K P :: o48K P :: o49K P :: o50K P :: o51K P :: o7K P :: o8K P :: o52K P :: o53K P :: o7K P :: o54K P :: o61K P :: o56K P :: o57K P :: o58K P :: o62K P :: o50K P :: o63K P :: o7K P :: o8K P :: o64K P :: o65K P :: o7K P :: o66K P :: o67K P :: o68K P :: o69K P :: o7K P :: o8K P :: o70K P :: o7K P :: o71K P :: o72K P :: o73K P :: o74K P :: o6K P :: o75K P :: o76K P :: o77K P :: o79K P :: o6K P :: o75K P :: o80K P :: o81K P :: [] : List Obj)) {}
noncomputable def Hg4 (x1 x2 : Str) (P : Params) : Heap := Heap.mk (Array.mk (o0K P :: o1K P :: o30K P :: o82K P :: o4K P :: o5K P :: o6K P :: o7K P :: o8K P :: o9K P :: o10K P :: o27K P :: o12K P :: o13K P :: o14K P :: o7K P :: o15K P :: o16K P :: o17K x1 x2 P :: o18K P :: o19K P :: o20K P :: o21K P :: o22K P :: o23K P :: o24K P :: o25K P :: o26K P :: o7K P :: o83K P :: o28K P :: o29K P :: o7K P :: o8K P :: o33K P :: o7K P :: o34K P :: o35K P :: o36K P :: o37K P :: o38K P :: o7K P :: o8K P :: o39K P :: o7K P :: o40K P :: o41K P :: o42K P :: o43K P :: o44K P :: o7K P :: o8K P :: o45K P :: o7K P :: o46K P :: o47K P :: o48K P :: o49K P :: o50K P :: o51K P :: o7K P :: o8K P :: o52K P :: o53K P :: o7K P :: o54K P :: o61K P :: o56K P :: o57K P :: o58K P :: o62K P :: o50K P :: o63K P :: o7K P :: o8K P :: o64K P :: o65K P :: o7K P :: o66K P :: o67K P :: o68K P :: o69K P :: o7K P :: o8K P :: o70K P :: o7K P :: o71K P :: o72K P :: o73K P :: o74K P :: o6K P :: o75K P :: o76K P :: o77K P :: o79K P :: o6K P :: o75K P :: o80K P :: o81K P :: o7K P :: o50K P :: o84K P :: o7K P :: o85K P :: o86K P :: o87K P :: o75K P :: o7K P :: o8K P :: o88K P :: o7K P :: o89K P :: o90K P :: o91K P :: o7K P :: o8K P :: o92K P :: o7K P :: o93K P :: o94K P :: o95K P :: o7K P :: o8K P :: o96K P :: o7K P :: o97K P :: o98K P :: o99K P :: o7K P :: o8K P :: o100K P :: o7K P :: o101K P :: o102K P :: o103K P :: o7K P :: o8K P :: o104K P :: o105K P :: o106K P :: o7K P :: o8K P :: o107K P :: o7K P :: o108K P :: o109K P :: o110K P :: o7K P :: o8K P :: o111K P :: o7K P :: o112K P :: o113K P :: o114K P :: o7K P :: o8K P :: o115K P :: o7K P :: o116K P :: o117K P :: o118K P :: o75K P :: o7K P :: o8K P :: o119K P :: o7K P :: o120K P :: o121K P :: o122K P :: o7K P :: o8K P :: o123K P :: o124K P :: o125K P :: o7K P :: o8K P :: o126K P :: o127K P :: o128K P :: o7K P :: o8K P :: o129K P :: o7K P :: o130K P :: o131K P :: o132K P :: o7K P :: o8K P :: o133K P :: o7K P :: o134K P :: o135K P :: o136K P :: o7K P :: o8K P :: o137K P :: o138K P :: o139K P :: o7K P :: o8K P :: o140K P :: o7K P :: o141K P :: o142K P :: o143K P :: o7K P :: o8K P :: o144K P :: o7K P :: o145K P :: o146K P :: o147K P :: o7K P :: o8K P :: o148K P :: o7K P :: o149K P :: o150K P :: o151K P :: o152K P :: o153K P :: o154K P :: o155K P :: o156K P :: o157K P :: o158K P :: [] : List Obj)) {}
noncomputable def Hg5 (x1 x2 : Str) (P : Params) : Heap := Heap.mk (Array.mk (o0K P :: o1K P :: o30K P :: o159K P :: o4K P :: o5K P :: o6K P :: o7K P :: o8K P :: o9K P :: o10K P :: o27K P :: o12K P :: o13K P :: o14K P :: o7K P :: o15K P :: o16K P :: o17K x1 x2 P :: o18K P :: o19K P :: o20K P :: o21K P :: o22K P :: o23K P :: o24K P :: o25K P :: o26K P :: o7K P :: o160K P :: o28K P :: o29K P :: o7K P :: o8K P :: o33K P :: o7K P :: o34K P :: o35K P :: o36K P :: o37K P :: o38K P :: o7K P :: o8K P :: o39K P :: o7K P :: o40K P :: o41K P :: o42K P :: o43K P :: o44K P :: o7K P :: o8K P :: o45K P :: o7K P :: o46K P :: o47K P :: o48K P :: o49K P :: o50K P :: o51K P :: o7K P :: o8K P :: o52K P :: o53K P :: o7K P :: o54K P :: o61K P :: o56K P :: o57K P :: o58K P :: o62K P :: o50K P :: o63K P :: o7K P :: o8K P :: o64K P :: o65K P :: o7K P :: o66K P :: o67K P :: o68K P :: o69K P :: o7K P :: o8K P :: o70K P :: o7K P :: o71K P :: o72K P :: o73K P :: o74K P :: o6K P :: o75K P :: o76K P :: o77K P :: o79K P :: o6K P :: o75K P :: o80K P :: o81K P :: o7K P :: o50K P :: o84K P :: o7K P :: o85K P :: o86K P :: o87K P :: o75K P :: o7K P :: o8K P :: o88K P :: o7K P :: o89K P :: o90K P :: o91K P :: o7K P :: o8K P :: o92K P :: o7K P :: o93K P :: o94K P :: o95K P :: o7K P :: o8K P :: o96K P :: o7K P :: o97K P :: o98K P :: o99K P :: o7K P :: o8K P :: o100K P :: o7K P :: o101K P :: o102K P :: o103K P :: o7K P :: o8K P :: o104K P :: o105K P :: o106K P :: o7K P :: o8K P :: o107K P :: o7K P :: o108K P :: o109K P :: o110K P :: o7K P :: o8K P :: o111K P :: o7K P :: o112K P :: o113K P :: o114K P :: o7K P :: o8K P :: o115K P :: o7K P :: o116K P :: o117K P :: o118K P :: o75K P :: o7K P :: o8K P :: o119K P :: o7K P :: o120K P :: o121K P :: o122K P :: o7K P :: o8K P :: o123K P :: o124K P :: o125K P :: o7K P :: o8K P :: o126K P :: o127K P :: o128K P :: o7K P :: o8K P :: o129K P :: o7K P :: o130K P :: o131K P :: o132K P :: o7K P :: o8K P :: o133K P :: o7K P :: o134K P :: o135K P :: o136K P :: o7K P :: o8K P :: o137K P :: o138K P :: o139K P :: o7K P :: o8K P :: o140K P :: o7K P :: o141K P :: o142K P :: o143K P :: o7K P :: o8K P :: o144K P :: o7K P :: o145K P :: o146K P :: o147K P :: o7K P :: o8K P :: o148K P :: o7K P :: o149K P :: o150K P :: o151K P :: o152K P :: o153K P :: o154K P :: o155K P :: o156K P :: o157K P :: o158K P :: o7K P :: o8K P :: o161K P :: o7K P :: o162K P :: o163K P :: o164K P :: o7K P :: o8K P :: o165K P :: o7K P :: o166K P :: o167K P :: o168K P :: o7K P :: o8K P :: o169K P :: o7K P :: o170K P :: o171K P :: o172K P :: o7K P :: o8K P :: o173K P :: o7K P :: o174K P :: o175K P :: o176K P :: o7K P :: o8K P :: o177K P :: o178K P :: o179K P :: o7K P :: o8K P :: o180K P :: o181K P :: o182K P :: o7K P :: o8K P :: o183K P :: o7K P :: o184K P :: o185K P :: o186K P :: o7K P :: o8K P :: o187K P :: o188K P :: o189K P :: [] : List Obj)) {}
noncomputable def Hf (x1 x2 : Str) (P : Params) : Heap := Heap.mk (Array.mk (o0K P :: o1K P :: o30K P :: o159K P :: o4K P :: o5K P :: o6K P :: o7K P :: o8K P :: o9K P :: o10K P :: o27K P :: o12K P :: o13K P :: o14K P :: o7K P :: o15K P :: o16K P :: o17K x1 x2 P :: o18K P :: o19K P :: o20K P :: o21K P :: o22K P :: o23K P :: o24K P :: o25K P :: o26K P :: o7K P :: o160K P :: o28K P :: o29K P :: o7K P :: o8K P :: o33K P :: o7K P :: o34K P :: o35K P :: o36K P :: o37K P :: o38K P :: o7K P :: o8K P :: o39K P :: o7K P :: o40K P :: o41K P :: o42K P :: o43K P :: o44K P :: o7K P :: o8K P :: o45K P :: o7K P :: o46K P :: o47K P :: o48K P :: o49K P :: o50K P :: o51K P :: o7K P :: o8K P :: o52K P :: o53K P :: o7K P :: o54K P :: o61K P :: o56K P :: o57K P :: o58K P :: o62K P :: o50K P :: o63K P :: o7K P :: o8K P :: o64K P :: o65K P :: o7K P :: o66K P :: o67K P :: o68K P :: o69K P :: o7K P :: o8K P :: o70K P :: o7K P :: o71K P :: o72K P :: o73K P :: o74K P :: o6K P :: o75K P :: o76K P :: o77K P :: o79K P :: o6K P :: o75K P :: o80K P :: o81K P :: o7K P :: o50K P :: o84K P :: o7K P :: o85K P :: o86K P :: o87K P :: o75K P :: o7K P :: o8K P :: o88K P :: o7K P :: o89K P :: o90K P :: o91K P :: o7K P :: o8K P :: o92K P :: o7K P :: o93K P :: o94K P :: o95K P :: o7K P :: o8K P :: o96K P :: o7K P :: o97K P :: o98K P :: o99K P :: o7K P :: o8K P :: o100K P :: o7K P :: o101K P :: o102K P :: o103K P :: o7K P :: o8K P :: o104K P :: o105K P :: o106K P :: o7K P :: o8K P :: o107K P :: o7K P :: o108K P :: o109K P :: o110K P :: o7K P :: o8K P :: o111K P :: o7K P :: o112K P :: o113K P :: o114K P :: o7K P :: o8K P :: o115K P :: o7K P :: o116K P :: o117K P :: o118K P :: o75K P :: o7K P :: o8K P :: o119K P :: o7K P :: o120K P :: o121K P :: o122K P :: o7K P :: o8K P :: o123K P :: o124K P :: o125K P :: o7K P :: o8K P :: o126K P :: o127K P :: o128K P :: o7K P :: o8K P :: o129K P :: o7K P :: o130K P :: o131K P :: o132K P :: o7K P :: o8K P :: o133K P :: o7K P :: o134K P :: o135K P :: o136K P :: o7K P :: o8K P :: o137K P :: o138K P :: o139K P :: o7K P :: o8K P :: o140K P :: o7K P :: o141K P :: o142K P :: o143K P :: o7K P :: o8K P :: o144K P :: o7K P :: o145K P :: o146K P :: o147K P :: o7K P :: o8K P :: o148K P :: o7K P :: o149K P :: o150K P :: o151K P :: o152K P :: o153K P :: o154K P :: o155K P :: o156K P :: o157K P :: o158K P :: o7K P :: o8K P :: o161K P :: o7K P :: o162K P :: o163K P :: o164K P :: o7K P :: o8K P :: o165K P :: o7K P :: o166K P :: o167K P :: o168K P :: o7K P :: o8K P :: o169K P :: o7K P :: o170K P :: o171K P :: o172K P :: o7K P :: o8K P :: o173K P :: o7K P :: o174K P :: o175K P :: o176K P :: o7K P :: o8K P :: o177K P :: o178K P :: o179K P :: o7K P :: o8K P :: o180K P :: o181K P :: o182K P :: o7K P :: o8K P :: o183K P :: o7K P :: o184K P :: o185K P :: o186K P :: o7K P :: o8K P :: o187K P :: o188K P :: o189K P :: [] : List Obj)) {}
noncomputable def bodK : List Stmt := behindTheImports PySem.Challenge.pw_ux0026_01
noncomputable def envTK : Env := { scope := (PySem.Challenge.pw_ux0026_01).main.scope, locals := mainNs, globals := mainNs, cells := [], code := Value.ref ((30 : Nat)), frame := some 31 }
noncomputable def codTK : Code := .body bodK envTK
abbrev posTK : Pos := Pos.mk ((0 : Nat)) ((0 : Nat)) ((0 : Nat)) ((0 : Nat))
def pickK (i j : Nat) (s : Option Shared) : Str := match s with | some s => (match s.heap.objs.toList[i]? with | some ⟨_, _, .seq vs _, _⟩ => (match vs.toList[j]? with | some (.str x _) => x | _ => default) | _ => default) | none => default
theorem open_h (w : World) : importEnds treeTable (opening PySem.Challenge.pw_ux0026_01) w 3526 (start (opening PySem.Challenge.pw_ux0026_01)).1 (start (opening PySem.Challenge.pw_ux0026_01)).2 = some (⟨He (pickK 18 1 (importEnds treeTable (opening PySem.Challenge.pw_ux0026_01) w 3526 (start (opening PySem.Challenge.pw_ux0026_01)).1 (start (opening PySem.Challenge.pw_ux0026_01)).2)) (pickK 18 6 (importEnds treeTable (opening PySem.Challenge.pw_ux0026_01) w 3526 (start (opening PySem.Challenge.pw_ux0026_01)).1 (start (opening PySem.Challenge.pw_ux0026_01)).2)) w.params, Array.mk [], {}, 276, (start (opening PySem.Challenge.pw_ux0026_01)).1.os⟩ : Shared) := by
  rw [PySem.W.Fast.te10274390034422433532, PySem.W.Fast.te14364793385576792824, PySem.W.Fast.te1435165496053646825]
  kernel_rfl
theorem open_f (w : World) (os : OsState) (x1 x2 : Str) : fenceModules? PySem.Challenge.pw_ux0026_01 (⟨He x1 x2 w.params, Array.mk [], {}, 276, os⟩ : Shared) = some (⟨H0 x1 x2 w.params, Array.mk [], {}, 276, os⟩ : Shared) := by
  rw [PySem.W.Fast.te14289696077712309145]
  kernel_rfl
theorem size_p (w : World) (x1 x2 : Str) : ((H0 x1 x2 w.params).isNs mainGlobals && (Array.mk [] : Array GenState).size == 0, (H0 x1 x2 w.params).objs.size, (H0 x1 x2 w.params).nsMap mainGlobals "__annotations__") = (true, 28, some (Value.ref 6)) := by
  kernel_rfl
theorem pre_p (w : World) (os : OsState) (x1 x2 : Str) : topGo treeTable PySem.Challenge.pw_ux0026_01 w 28 (some (Value.ref 6)) 12 (⟨H0 x1 x2 w.params, Array.mk [], {}, 276, os⟩ : Shared) (topStub PySem.Challenge.pw_ux0026_01) = some ((⟨Ha x1 x2 w.params, Array.mk [], {}, 282, os⟩ : Shared), Thread.mk (denote treeTable codTK) codTK (Pos.mk ((0 : Nat)) ((0 : Nat)) ((0 : Nat)) ((0 : Nat))) [topFrame posTK]) := by
  rw [PySem.W.Fast.te15667345088766844465, PySem.W.Fast.te11892475500146522536, PySem.W.Fast.te14364793385576792824]
  kernel_rfl
theorem block_p (w : World) (os : OsState) (x1 x2 : Str) : segRun treeTable PySem.Challenge.pw_ux0026_01 w 28 (some (Value.ref 6)) 1 1 (⟨Ha x1 x2 w.params, Array.mk [], {}, 282, os⟩ : Shared) (blockOf bodK envTK codTK (Pos.mk ((0 : Nat)) ((0 : Nat)) ((0 : Nat)) ((0 : Nat))) [topFrame posTK]) = some (.next, (⟨Hb x1 x2 w.params, Array.mk [], {}, 282, os⟩ : Shared), codTK, Pos.mk ((0 : Nat)) ((0 : Nat)) ((0 : Nat)) ((0 : Nat))) := by
  rw [PySem.W.Fast.te14374325043358763698]
  kernel_rfl
noncomputable def b1K : List Stmt := (bodK.drop 0).take 6
theorem g1_p (w : World) (os : OsState) (x1 x2 : Str) : segRun treeTable PySem.Challenge.pw_ux0026_01 w 28 (some (Value.ref 6)) 1 325 (⟨Hb x1 x2 w.params, Array.mk [], {}, 282, os⟩ : Shared) (piecesOf b1K envTK codTK (Pos.mk ((0 : Nat)) ((0 : Nat)) ((0 : Nat)) ((0 : Nat))) [topFrame posTK]) = some (.next, (⟨Hg1 x1 x2 w.params, Array.mk [], {}, 340, os⟩ : Shared), codTK, Pos.mk ((33 : Nat)) ((0 : Nat)) ((34 : Nat)) ((8 : Nat))) := by
  rw [PySem.W.Fast.te14374325043358763698, PySem.W.Fast.te14364793385576792824]
  kernel_rfl
noncomputable def b2K : List Stmt := (bodK.drop 6).take 4
theorem g2_p (w : World) (os : OsState) (x1 x2 : Str) : segRun treeTable PySem.Challenge.pw_ux0026_01 w 28 (some (Value.ref 6)) 1 325 (⟨Hg1 x1 x2 w.params, Array.mk [], {}, 340, os⟩ : Shared) (piecesOf b2K envTK codTK (Pos.mk ((33 : Nat)) ((0 : Nat)) ((34 : Nat)) ((8 : Nat))) [topFrame posTK]) = some (.next, (⟨Hg2 x1 x2 w.params, Array.mk [], {}, 395, os⟩ : Shared), codTK, Pos.mk ((55 : Nat)) ((0 : Nat)) ((55 : Nat)) ((19 : Nat))) := by
  rw [PySem.W.Fast.te14374325043358763698, PySem.W.Fast.te14364793385576792824]
  kernel_rfl
noncomputable def b3K : List Stmt := (bodK.drop 10).take 1
theorem g3_p (w : World) (os : OsState) (x1 x2 : Str) : segRun treeTable PySem.Challenge.pw_ux0026_01 w 28 (some (Value.ref 6)) 1 78 (⟨Hg2 x1 x2 w.params, Array.mk [], {}, 395, os⟩ : Shared) (piecesOf b3K envTK codTK (Pos.mk ((55 : Nat)) ((0 : Nat)) ((55 : Nat)) ((19 : Nat))) [topFrame posTK]) = some (.next, (⟨Hg3 x1 x2 w.params, Array.mk [], {}, 429, os⟩ : Shared), codTK, Pos.mk ((56 : Nat)) ((0 : Nat)) ((56 : Nat)) ((20 : Nat))) := by
  rw [PySem.W.Fast.te14374325043358763698, PySem.W.Fast.te14364793385576792824]
  kernel_rfl
noncomputable def b4K : List Stmt := (bodK.drop 11).take 1
theorem g4_p (w : World) (os : OsState) (x1 x2 : Str) : segRun treeTable PySem.Challenge.pw_ux0026_01 w 28 (some (Value.ref 6)) 1 728 (⟨Hg3 x1 x2 w.params, Array.mk [], {}, 429, os⟩ : Shared) (piecesOf b4K envTK codTK (Pos.mk ((56 : Nat)) ((0 : Nat)) ((56 : Nat)) ((20 : Nat))) [topFrame posTK]) = some (.next, (⟨Hg4 x1 x2 w.params, Array.mk [], {}, 585, os⟩ : Shared), codTK, Pos.mk ((57 : Nat)) ((0 : Nat)) ((126 : Nat)) ((16 : Nat))) := by
  rw [PySem.W.Fast.te14374325043358763698, PySem.W.Fast.te14364793385576792824]
  kernel_rfl
noncomputable def b5K : List Stmt := (bodK.drop 12).take 9
theorem g5_p (w : World) (os : OsState) (x1 x2 : Str) : segRun treeTable PySem.Challenge.pw_ux0026_01 w 28 (some (Value.ref 6)) 1 249 (⟨Hg4 x1 x2 w.params, Array.mk [], {}, 585, os⟩ : Shared) (piecesOf b5K envTK codTK (Pos.mk ((57 : Nat)) ((0 : Nat)) ((126 : Nat)) ((16 : Nat))) [topFrame posTK]) = some (.next, (⟨Hg5 x1 x2 w.params, Array.mk [], {}, 656, os⟩ : Shared), codTK, Pos.mk ((191 : Nat)) ((0 : Nat)) ((209 : Nat)) ((101 : Nat))) := by
  rw [PySem.W.Fast.te14374325043358763698, PySem.W.Fast.te14364793385576792824]
  kernel_rfl
theorem fin_p (w : World) (os : OsState) (x1 x2 : Str) : topRun treeTable PySem.Challenge.pw_ux0026_01 w 28 (some (Value.ref 6)) 2 (⟨Hg5 x1 x2 w.params, Array.mk [], {}, 656, os⟩ : Shared) (Thread.mk (doneF .next) codTK (Pos.mk ((191 : Nat)) ((0 : Nat)) ((209 : Nat)) ((101 : Nat))) [topFrame posTK]) = some (⟨Hf x1 x2 w.params, Array.mk [], {}, 656, os⟩ : Shared) := by
  rw [PySem.W.Fast.te14082659384304107361]
  kernel_rfl
theorem parts_p : (b1K ++ (b2K ++ (b3K ++ (b4K ++ (b5K ++ []))))) = bodK := by kernel_rfl
theorem run_p (w : World) (os : OsState) (x1 x2 : Str) : topRun treeTable PySem.Challenge.pw_ux0026_01 w 28 (some (Value.ref 6)) (12 + (1 + (325 + (325 + (78 + (728 + (249 + (2)))))))) (⟨H0 x1 x2 w.params, Array.mk [], {}, 276, os⟩ : Shared) (topStub PySem.Challenge.pw_ux0026_01) = some (⟨Hf x1 x2 w.params, Array.mk [], {}, 656, os⟩ : Shared) := by
  refine go_top (pre_p w os x1 x2) (piece_block (block_p w os x1 x2) ?_)
  have k := piece_app (g1_p w os x1 x2) (piece_app (g2_p w os x1 x2) (piece_app (g3_p w os x1 x2) (piece_app (g4_p w os x1 x2) (piece_app (g5_p w os x1 x2) (piece_nil (fin_p w os x1 x2))))))
  rw [parts_p] at k
  exact k
theorem look_1 (w : World) (os : OsState) (x1 x2 : Str) : (staticsOk (importedModules (PySem.Challenge.pw_ux0026_01).main.body) (H0 x1 x2 w.params) (Hf x1 x2 w.params)) = true := by
  rw [PySem.W.Fast.te5923862056798008813]
  kernel_rfl
theorem look_2 (w : World) (os : OsState) (x1 x2 : Str) : (namesBound PySem.Challenge.pw_ux0026_01 (Hf x1 x2 w.params)) = true := by
  kernel_rfl
theorem look_3 (w : World) (os : OsState) (x1 x2 : Str) : (gensDone (⟨Hf x1 x2 w.params, Array.mk [], {}, 656, os⟩ : Shared)) = true := by
  kernel_rfl
theorem look_4 (w : World) (os : OsState) (x1 x2 : Str) : (laidKept (H0 x1 x2 w.params) (Hf x1 x2 w.params)) = true := by
  kernel_rfl
theorem look_5 (w : World) (os : OsState) (x1 x2 : Str) : (seen ((recsOf viewK).map (·.name)) (ownsOf viewK) [] { (⟨Hf x1 x2 w.params, Array.mk [], {}, 656, os⟩ : Shared) with gens := #[] }) = expectedOf viewK := by
  rw [PySem.W.Fast.te5160383126252970620, PySem.W.Fast.te3399658132070893891, PySem.W.Fast.te5991557255702980513]
  kernel_rfl
theorem look_6 (w : World) (os : OsState) (x1 x2 : Str) : ((⟨Hf x1 x2 w.params, Array.mk [], {}, 656, os⟩ : Shared).heap.bltView) = bltViewBooted := by
  kernel_rfl
theorem look_7 (w : World) (os : OsState) (x1 x2 : Str) : ((⟨Hf x1 x2 w.params, Array.mk [], {}, 656, os⟩ : Shared).heap.keysOk (looseW viewK looseK) ((recsOf viewK).map (·.name)) ((litsOf viewK).map (·.1)) ((clssOf viewK (looseW viewK looseK)).map (·.name))) = true := by
  rw [PySem.W.Fast.te10880121769531294198, PySem.W.Fast.te3399658132070893891, PySem.W.Fast.te7409074990110511671, PySem.W.Fast.te13664370479719496447]
  kernel_rfl
theorem look_8 (w : World) (os : OsState) (x1 x2 : Str) : ((⟨Hf x1 x2 w.params, Array.mk [], {}, 656, os⟩ : Shared).heap.accountedOkI (importedModules (PySem.Challenge.pw_ux0026_01).main.body)) = true := by
  rw [PySem.W.Fast.te14722251495701143533, PySem.W.Fast.te5923862056798008813]
  kernel_rfl
theorem look_9 (w : World) (os : OsState) (x1 x2 : Str) : ((⟨Hf x1 x2 w.params, Array.mk [], {}, 656, os⟩ : Shared).heap.isNs mainGlobals) = true := by
  kernel_rfl
theorem look_10 (w : World) (os : OsState) (x1 x2 : Str) : ((⟨Hf x1 x2 w.params, Array.mk [], {}, 656, os⟩ : Shared).heap.isNs builtinsNs) = true := by
  kernel_rfl
theorem look_11 (w : World) (os : OsState) (x1 x2 : Str) : (tablesOk viewK (⟨Hf x1 x2 w.params, Array.mk [], {}, 656, os⟩ : Shared).heap) = true := by
  rw [PySem.W.Fast.te10994771534591457954]
  kernel_rfl
theorem look_12 (w : World) (os : OsState) (x1 x2 : Str) : ((xlAt viewK [] (⟨Hf x1 x2 w.params, Array.mk [], {}, 656, os⟩ : Shared) && recOk (RowW.records (OpenRow.toRowW (PySem.Challenge.rw_ux0026_01).row)) (⟨Hf x1 x2 w.params, Array.mk [], {}, 656, os⟩ : Shared))) = true := by
  kernel_rfl
theorem look_13 (w : World) (os : OsState) (x1 x2 : Str) : (tabsOk viewK (⟨Hf x1 x2 w.params, Array.mk [], {}, 656, os⟩ : Shared)) = true := by
  rw [PySem.W.Fast.te479339242167458305]
  kernel_rfl
theorem look_14 (w : World) (os : OsState) (x1 x2 : Str) : (pinSeenD viewK (drecsOf viewK) (⟨Hf x1 x2 w.params, Array.mk [], {}, 656, os⟩ : Shared)) = pinGoodD (drecsOf viewK) := by
  rw [PySem.W.Fast.te16090120013241838585, PySem.W.Fast.te3247288618530077131]
  kernel_rfl
theorem look_15 (w : World) (os : OsState) (x1 x2 : Str) : (plainSeenE viewK (looseW viewK looseK) (⟨Hf x1 x2 w.params, Array.mk [], {}, 656, os⟩ : Shared)) = plainGoodE viewK (looseW viewK looseK) := by
  rw [PySem.W.Fast.te2386780881361962483]
  kernel_rfl
theorem look_16 (w : World) (os : OsState) (x1 x2 : Str) : (plainSeenD viewK looseK (⟨Hf x1 x2 w.params, Array.mk [], {}, 656, os⟩ : Shared)) = plainGoodD viewK looseK := by
  rw [PySem.W.Fast.te11698064438423848299]
  kernel_rfl
theorem look_17 (w : World) (os : OsState) (x1 x2 : Str) : (wideSeen viewK (⟨Hf x1 x2 w.params, Array.mk [], {}, 656, os⟩ : Shared)) = wideGood viewK := by
  rw [PySem.W.Fast.te7317090234206586261]
  kernel_rfl
theorem look_18 (w : World) (os : OsState) (x1 x2 : Str) : (clsSeenW viewK looseK (⟨Hf x1 x2 w.params, Array.mk [], {}, 656, os⟩ : Shared)) = clsGoodW viewK looseK := by
  rw [PySem.W.Fast.te7369524293546568484]
  kernel_rfl
theorem look_19 (w : World) (os : OsState) (x1 x2 : Str) : (Hook.obs (kmHook heapK addrsK (fun _ => by kernel_rfl) [260]) (⟨Hf x1 x2 w.params, Array.mk [], {}, 656, os⟩ : Shared)) = Hook.val (kmHook heapK addrsK (fun _ => by kernel_rfl) [260]) w := by
  kernel_rfl
theorem pair_eq {α β : Type} {a a' : α} {b b' : β} (h : a = a') (k : b = b') : (a, b) = (a', b') := by rw [h, k]
theorem left_of {p q : Program} {loose : List Str} {Xt : Shared → Bool} {α : Type} {Yf : Shared → α} {Ya : World → α} {N M m : Nat} {w : World} {s s₀ s₁ : Shared} {a : Option Value}
    (h : importEnds treeTable (opening p) w N (start (opening p)).1 (start (opening p)).2 = some s) (f : fenceModules? p s = some s₀)
    (z : (s₀.heap.isNs mainGlobals && s₀.gens.size == 0, s₀.heap.objs.size, s₀.heap.nsMap mainGlobals "__annotations__") = (true, m, a))
    (r : topRun treeTable p w m a M s₀ (topStub p) = some s₁) (le : Nat.ble M N = true)
    (l : (staticsOk (importedModules p.main.body) s₀.heap s₁.heap && namesBound p s₁.heap && gensDone s₁ && laidKept s₀.heap s₁.heap) = true)
    (g : openSeen q loose (importedModules p.main.body) Xt true s₁ = openGood q loose) (y : Yf s₁ = Ya w) :
    (openEnds treeTable p w N).map (fun s => (openSeen q loose (importedModules p.main.body) Xt true s, Yf s)) = some (openGood q loose, Ya w) := by
  have z1 := congrArg Prod.fst z
  have z2 := congrArg (fun x => x.2.1) z
  have z3 := congrArg (fun x => x.2.2) z
  dsimp only at z1 z2 z3
  have r' := topRun_mono (N - M) _ _ _ _ r
  rw [show M + (N - M) = N by have := Nat.le_of_ble_eq_true le; omega] at r'
  have t : topFrom treeTable p w N s₀ = some s₁ := by
    unfold topFrom
    rw [z1, z2, z3, r']
    dsimp only [Option.bind]
    rw [l]
  have o : openEnds treeTable p w N = some s₁ := by
    unfold openEnds fencedOpening
    rw [h]
    show (fenceModules? p s).bind _ = _
    rw [f]
    exact t
  rw [o]
  exact congrArg some (Prod.ext g y)
theorem left_hd : LeftO PySem.Challenge.pw_ux0026_01 viewK looseK (fun s => xlAt viewK [] s && recOk (RowW.records (OpenRow.toRowW (PySem.Challenge.rw_ux0026_01).row)) s) (Hook.obs (kmHook heapK addrsK (fun _ => by kernel_rfl) [260])) (Hook.val (kmHook heapK addrsK (fun _ => by kernel_rfl) [260])) 3526 := by
  intro w
  obtain ⟨os, x1, x2, h⟩ : ∃ (os : OsState) (x1 x2 : Str) , importEnds treeTable (opening PySem.Challenge.pw_ux0026_01) w 3526 (start (opening PySem.Challenge.pw_ux0026_01)).1 (start (opening PySem.Challenge.pw_ux0026_01)).2 = some (⟨He x1 x2 w.params, Array.mk [], {}, 276, os⟩ : Shared) := ⟨_, _, _, open_h w⟩
  refine left_of (M := (12 + (1 + (325 + (325 + (78 + (728 + (249 + (2))))))))) h (open_f w os x1 x2) (size_p w x1 x2) (run_p w os x1 x2) (by rfl) ?_ ?_ (look_19 w os x1 x2)
  · exact look_both (look_both (look_both (look_1 w os x1 x2) (look_2 w os x1 x2)) (look_3 w os x1 x2)) (look_4 w os x1 x2)
  · delta openSeen openGood
    exact pair_eq (look_5 w os x1 x2) (pair_eq (look_6 w os x1 x2) (pair_eq (look_both (look_both (look_both (look_both (look_both (look_both (look_7 w os x1 x2) (look_8 w os x1 x2)) (look_9 w os x1 x2)) (look_10 w os x1 x2)) (look_11 w os x1 x2)) (look_12 w os x1 x2)) rfl) (pair_eq (look_13 w os x1 x2) (pair_eq (look_14 w os x1 x2) (pair_eq (look_15 w os x1 x2) (pair_eq (look_16 w os x1 x2) (pair_eq (look_17 w os x1 x2) (look_18 w os x1 x2))))))))
theorem ws_hd : (PySem.Challenge.rw_ux0026_01).wellSaid = true := by
  delta OpenLaw.wellSaid OpenRow.wellSaid OpenRow.partSaid looksOpen
  show (_ && _) = true
  repeat' with_reducible refine look_both ?_ ?_
  all_goals decide +kernel
theorem names_hd : namesOk viewK (looseW viewK looseK) (namesW viewK looseK) = true := by
  rw [PySem.W.Fast.te17448422675489707002, PySem.W.Fast.te821141287760084731]
  kernel_rfl
theorem imps_hd : importsNone viewK = true := by
  rw [PySem.W.Fast.te2458874890965802552]
  kernel_rfl
theorem hd (walk : WalkO viewK looseK (XL viewK []) (Hook.says (kmHook heapK addrsK (fun _ => by kernel_rfl) [260])) (OpenRow.toRowW (PySem.Challenge.rw_ux0026_01).row) recLaw [] fun f vs => PySem.call f vs) : (PySem.Challenge.rw_ux0026_01).Holds := by
  refine holds_law ws_hd fun said => ?_
  exact holds_open left_hd (Hook.of _) (Hook.keeps _) (fun s e => xl_of s (Bool.and_eq_true_iff.mp e).1) XL.keeps (by rfl) (by rfl) (by rfl) (fun s e => recFacts_of (Bool.and_eq_true_iff.mp e).2) (by rfl) (by first | assumption | decide +kernel) (by decide +kernel) ⟨rfl, rfl, rfl, rfl, rfl, by decide +kernel⟩ (by w_witness2) walk
end Mine
end
namespace Mine
section
open PySem PySem.W PyProof.Rows
/-! Texts as lists of signs -/
def tx (l : List Nat) : Str := ⟨l.toArray⟩
theorem tx_cps (l : List Nat) : (tx l).cps.toList = l := by simp [tx]
theorem tx_len (l : List Nat) : (tx l).length = l.length := by simp [tx, Str.length]
theorem tx_app (a b : List Nat) : tx a ++ tx b = tx (a ++ b) := by
  show Str.mk (a.toArray ++ b.toArray) = _
  simp [tx]
theorem tx_of (x : Str) : tx x.cps.toList = x := by simp [tx]
theorem tx_inj {a b : List Nat} (h : tx a = tx b) : a = b := by
  have := congrArg (fun x : Str => x.cps.toList) h
  simpa [tx] using this
theorem tx_beq (a b : List Nat) : (tx a == tx b) = decide (a = b) := by
  by_cases h : a = b
  · simp [h]
  · simp only [h, decide_false]
    exact beq_eq_false_iff_ne.mpr fun e => h (tx_inj e)
theorem tx_bne (a b : List Nat) : (tx a != tx b) = decide (a ≠ b) := by
  rw [bne, tx_beq]; by_cases h : a = b <;> simp [h]
theorem str_app (x y : Str) : (x ++ y).cps.toList = x.cps.toList ++ y.cps.toList := by
  show (x.cps ++ y.cps).toList = _
  simp
theorem slice_to {x : Str} {j : Nat} (h : j ≤ x.length) : Txt.slice x none (some (j : Int)) = tx (x.cps.toList.take j) := by
  have := slice_closes_toL (x := x) (j := (j : Int)) (by omega) (by omega)
  rw [eq_of_beq this]; simp [tx]
theorem slice_ab {x : Str} {i j : Nat} (h1 : i ≤ j) (h : j ≤ x.length) : Txt.slice x (some (i : Int)) (some (j : Int)) = tx ((x.cps.toList.drop i).take (j - i)) := by
  have := slice_closesL (x := x) (i := (i : Int)) (j := (j : Int)) (by omega) (by omega) (by omega)
  rw [eq_of_beq this]
  have e : ((j : Int) - i).toNat = j - i := by omega
  simp [tx, e]
theorem item_at {x : Str} {i : Int} (h0 : 0 ≤ i) (h : i < x.length) : ∃ c, x.cps.toList[i.toNat]? = some c ∧ Txt.item x i = tx [c] := by
  have hl : i.toNat < x.cps.toList.length := by simp only [Array.length_toList]; unfold Str.length at h; omega
  refine ⟨x.cps.toList[i.toNat], List.getElem?_eq_getElem hl, ?_⟩
  unfold Txt.item Txt.charAt seqIndex?
  have h2 : ¬ i < 0 := by omega
  have h3 : i < (x.length : Int) := h
  simp only [h2, if_false, h0, h3, decide_true, Bool.and_self, if_true, Option.bind_some, tx]
  have h4 : i.toNat < x.cps.size := by simpa using hl
  rw [Array.getElem?_eq_getElem h4]
  simp

/-! what parse257 tells -/
def scan : List Nat → List Nat → List Nat
  | [], d => d
  | [c], d => if c = 34 then d else d ++ [c]
  | c :: c2 :: r, d => if c = 34 then (if c2 = 34 then scan r (d ++ [34]) else d) else scan (c2 :: r) (d ++ [c])
def p257 (x : List Nat) : List Nat := if (x.drop 3).take 2 = [32, 34] then scan (x.drop 5) [] else []

theorem scan_end {x : List Nat} {i : Nat} {d : List Nat} (h : x.length ≤ i) : scan (x.drop i) d = d := by
  rw [List.drop_eq_nil_of_le h]; rfl
theorem drop_at {x : List Nat} {i : Nat} {c : Nat} (h : x[i]? = some c) : x.drop i = c :: x.drop (i + 1) := by
  obtain ⟨hl, e⟩ := List.getElem?_eq_some_iff.mp h
  rw [List.drop_eq_getElem_cons hl, e]
theorem scan_last {x : List Nat} {i : Nat} {d : List Nat} (h : x[i]? = some 34) (h2 : x.length ≤ i + 1) : scan (x.drop i) d = d := by
  rw [drop_at h, List.drop_eq_nil_of_le h2]; simp [scan]
theorem scan_stop {x : List Nat} {i c : Nat} {d : List Nat} (h : x[i]? = some 34) (h2 : x[i + 1]? = some c) (h3 : c ≠ 34) : scan (x.drop i) d = d := by
  rw [drop_at h, drop_at h2]; simp [scan, h3]
theorem scan_two {x : List Nat} {i : Nat} {d : List Nat} (h : x[i]? = some 34) (h2 : x[i + 1]? = some 34) : scan (x.drop i) d = scan (x.drop (i + 2)) (d ++ [34]) := by
  rw [drop_at h, drop_at h2]; simp [scan]
theorem scan_one {x : List Nat} {i c : Nat} {d : List Nat} (h : x[i]? = some c) (h3 : c ≠ 34) : scan (x.drop i) d = scan (x.drop (i + 1)) (d ++ [c]) := by
  rw [drop_at h]
  cases e : x.drop (i + 1) with
  | nil => simp [scan, h3]
  | cons a r => simp [scan, h3]
def Hold (p : Prop) : Prop := p
theorem Hold.out {p : Prop} (h : Hold p) : p := h
end
section
open PySem PySem.W PyProof.Rows PySem.Builtin PySem.Builtin.Str
theorem slice_last (x : Str) : Txt.slice x (some (-1)) none = tx (x.cps.toList.drop (x.length - 1)) := by
  have hsx : x.length = x.cps.toList.length := by simp [Str.length]
  have e : Txt.slice x (some (-1)) none = Txt.slice x (some ((x.length - 1 : Nat) : Int)) (some (x.length : Int)) := by
    have e2 : strSliceIndices (some (-1)) none 1 x.length = strSliceIndices (some ((x.length - 1 : Nat) : Int)) (some (x.length : Int)) 1 x.length := by
      unfold strSliceIndices
      dsimp only
      have h1 : (if (-1 : Int) < 0 then -1 + (x.length : Int) else -1) = (x.length : Int) - 1 := by rw [if_pos (by decide)]; omega
      have h2 : (if ((x.length - 1 : Nat) : Int) < 0 then ((x.length - 1 : Nat) : Int) + (x.length : Int) else ((x.length - 1 : Nat) : Int)) = ((x.length - 1 : Nat) : Int) := by rw [if_neg (by omega)]
      have h3 : (if ((x.length : Nat) : Int) < 0 then ((x.length : Nat) : Int) + (x.length : Int) else ((x.length : Nat) : Int)) = ((x.length : Nat) : Int) := by rw [if_neg (by omega)]
      rw [h1, h2, h3]
      simp only [show (1 : Int) > 0 by decide, if_true]
      congr 1 <;> omega
    unfold Txt.slice
    rw [e2]
  rw [e, slice_ab (by omega) (by omega)]
  congr 1
  exact List.take_of_length_le (by rw [List.length_drop]; omega)

theorem countIn_one (c : Nat) : ∀ l : List Nat, Spec.countIn (.str ⟨#[c]⟩) (l.map fun n => PyData.str ⟨#[n]⟩) = (l.count c : Nat)
  | [] => rfl
  | a :: r => by
    have ih := countIn_one c r
    rw [List.map_cons, Spec.countIn, ih, List.count_cons]
    by_cases h : a = c
    · subst h
      have : Spec.same (PyData.str ⟨#[a]⟩) (PyData.str ⟨#[a]⟩) = true := by simp [Spec.same]
      simp only [this, if_true, beq_self_eq_true, if_true]
      omega
    · have : Spec.same (PyData.str ⟨#[a]⟩) (PyData.str ⟨#[c]⟩) = false := by simp [Spec.same, h]
      have h2 : (a == c) = false := by simpa using h
      simp [this, h2]
theorem count_tx (l : List Nat) (c : Nat) : Txt.count (tx l) (tx [c]) = (l.count c : Nat) := by
  show Txt.count (tx l) ⟨#[c]⟩ = _
  rw [count_is, tx_cps, countIn_one]

/-! rows of marks -/
def rep (n : Nat) : List Nat := List.replicate n 34
theorem rep_len (n : Nat) : (rep n).length = n := by simp [rep]
theorem scan_even (s : List Nat) : ∀ (k : Nat) (d : List Nat), scan (rep (2 * k) ++ s) d = scan s (d ++ rep k)
  | 0, d => by simp [rep]
  | k + 1, d => by
    have e : rep (2 * (k + 1)) ++ s = 34 :: 34 :: (rep (2 * k) ++ s) := by
      show List.replicate (2 * k + 1 + 1) 34 ++ s = _
      simp [rep, List.replicate_succ]
    have e2 : d ++ rep (k + 1) = d ++ [34] ++ rep k := by simp [rep, List.replicate_succ]
    rw [e, e2, ← scan_even s k (d ++ [34])]
    simp [scan]
def NoMark : List Nat → Prop
  | [] => True
  | c :: _ => c ≠ 34
theorem scan_mark {s d : List Nat} (h : NoMark s) : scan (34 :: s) d = d := by
  cases s with
  | nil => simp [scan]
  | cons c r => simp [scan, show c ≠ 34 from h]
theorem scan_odd {s : List Nat} (h : NoMark s) (k : Nat) (d : List Nat) : scan (rep (2 * k + 1) ++ s) d = d ++ rep k := by
  have e : rep (2 * k + 1) ++ s = rep (2 * k) ++ 34 :: s := by
    show List.replicate (2 * k + 1) 34 ++ s = _
    rw [List.replicate_succ']
    simp [rep]
  rw [e, scan_even, scan_mark h]
/-- nothing, a mark, or a mark and words -/
def Tail (s : List Nat) : Prop := s = [] ∨ ∃ r, s = 34 :: r ∧ NoMark r
theorem scan_tail {s : List Nat} (h : Tail s) (d : List Nat) : scan s d = d := by
  rcases h with rfl | ⟨r, rfl, h⟩
  · rfl
  · exact scan_mark h
theorem scan_sign {c : Nat} (h : c ≠ 34) (s d : List Nat) : scan (c :: s) d = scan s (d ++ [c]) := by
  cases s with
  | nil => simp [scan, h]
  | cons a r => simp [scan, h]
theorem p257_of (s : List Nat) : p257 ([50, 53, 55, 32, 34] ++ s) = scan s [] := rfl
theorem told_one {l : Nat} (hl : l ≠ 34) {t : List Nat} (ht : Tail t) (n : Nat) : p257 ([50, 53, 55, 32, 34] ++ (rep n ++ (l :: t))) = rep (n / 2) ++ (if n % 2 = 0 then [l] else []) := by
  rw [p257_of]
  by_cases h : n % 2 = 0
  · have e : n = 2 * (n / 2) := by omega
    rw [if_pos h]
    conv => lhs; rw [e]
    rw [scan_even, scan_sign hl, scan_tail ht]; simp
  · have e : n = 2 * (n / 2) + 1 := by omega
    rw [if_neg h]
    conv => lhs; rw [e]
    rw [scan_odd (s := l :: t) hl]; simp
theorem mul_mark (n : Nat) : Txt.mul (Str.ofString "\"") (n : Int) = tx (rep n) := by
  have e : Str.ofString "\"" = tx [34] := by decide
  rw [e]
  unfold Txt.mul
  have fold : ∀ (k : Nat) (a : Array Nat), (List.replicate k (tx [34]).cps).foldl (· ++ ·) a = a ++ (rep k).toArray := by
    intro k
    induction k with
    | zero => intro a; simp [rep]
    | succ k ih => intro a; rw [List.replicate_succ, List.foldl_cons, ih]; apply Array.toList_inj.mp; simp [tx, rep, List.replicate_succ]
  by_cases h : n = 0
  · subst h; rfl
  · have h1 : ¬ ((n : Int) < 1) := by omega
    rw [if_neg h1]
    by_cases h2 : n = 1
    · subst h2; rfl
    · have h3 : ((n : Int) == 1 || (tx [34]).length == 0) = false := by
        have : ¬ ((n : Int) = 1) := by omega
        simp [this, tx_len]
      rw [h3]
      simp only [Bool.false_eq_true, if_false, Int.toNat_natCast, fold]
      simp [tx]
theorem asked_one (n l : Nat) (t : List Nat) : Str.ofString "257 \"" ++ Txt.mul (Str.ofString "\"") (n : Int) ++ tx [l] ++ tx t = tx ([50, 53, 55, 32, 34] ++ (rep n ++ (l :: t))) := by
  rw [mul_mark, show Str.ofString "257 \"" = tx [50, 53, 55, 32, 34] from by decide, tx_app, tx_app, tx_app]
  simp
def told (n l : Nat) : List Nat := rep (n / 2) ++ (if n % 2 = 0 then [l] else [])
theorem told_count {l : Nat} (hl : l ≠ 34) (n : Nat) : (told n l).count 34 = n / 2 := by
  unfold told rep
  split <;> simp [List.count_cons, hl]
theorem told_last {l : Nat} (hl : l ≠ 34) (n : Nat) : (told n l).drop ((told n l).length - 1) = [l] ↔ n % 2 = 0 := by
  unfold told
  by_cases h : n % 2 = 0
  · simp [h, rep_len]
  · simp only [h, if_false, List.append_nil, iff_false, rep_len]
    intro e
    have hm : l ∈ (rep (n / 2)).drop (n / 2 - 1) := by rw [e]; simp
    have := List.mem_of_mem_drop hm
    exact hl (List.eq_of_mem_replicate this)
end
section
open PySem PySem.W PyProof.Rows PySem.Calls
section
variable {prog : Program} {w : World} {A : Around} {E : Value → Shared → Prop} {s : Shared} {h₀ : Heap} {L : Addr} {news : List (Addr × Obj)} {Q : Value → Shared → Prop}
theorem item_I {value slice : Expr} {l : Addr} {vs : List Value} {nn : Nat} {ns : List Int} {k : Int} {u : Tok} (N : News h₀ L s.heap news) (hm : (l, listOf vs.toArray nn) ∈ news) (hi : IntsAre vs ns) (hl : ns.length ≤ 1000)
    (h0 : 0 ≤ k) (hk : k < ns.length) (h : ∀ t, Q (.int (ns.getD k.toNat 0) t) s)
    (hs : subscripted slice false (.ref l) (.int k u) = operate [.ref l, .int k u] (getItem (.ref l) (.int k u)) := by with_unfolding_all rfl) (hg : ∀ r, letTemporaryGo value (.ref l) r = pure () := by intro _; with_unfolding_all rfl) :
    wpAny (model prog w) A (subscriptTail value slice (.ref l) (.int k u)) Q E s := by
  have hkn : k.toNat < ns.length := by omega
  obtain ⟨t, ht⟩ := hi.get k.toNat (ns[k.toNat]'hkn) (List.getElem?_eq_getElem hkn)
  refine item_listL (l := vs) ⟨_, (N _ hm).1, rfl, nn, rfl⟩ h0 (by omega) ht ?_ hs hg
  have e : ns.getD k.toNat 0 = ns[k.toNat]'hkn := by simp [List.getD, List.getElem?_eq_getElem hkn]
  rw [← e]
  exact h t
theorem len_I {l : Addr} {vs : List Value} {nn : Nat} {ns : List Int} (N : News h₀ L s.heap news) (hm : (l, listOf vs.toArray nn) ∈ news) (hi : IntsAre vs ns) (hl : ns.length ≤ 1000)
    (h : Q (.int ns.length (s.toks + 1)) { s with toks := s.toks + 1 + 1 }) : wpAny (model prog w) A (call (.builtin "len") [.ref l]) Q E s := by
  have e : vs.toArray.size = ns.length := by simp [hi.length]
  refine len_list (items := vs.toArray) ⟨_, (N _ hm).1, rfl, nn, rfl⟩ (by rw [e]; omega) ?_
  rw [e]
  exact h
end
/-! what bisect_right tells -/
def bis (ns : List Int) (x : Int) : Nat → Nat → Nat → Nat
  | 0, lo, _ => lo
  | f + 1, lo, hi => if lo < hi then (if x < ns.getD ((lo + hi) / 2) 0 then bis ns x f lo ((lo + hi) / 2) else bis ns x f ((lo + hi) / 2 + 1) hi) else lo
theorem bis_more (ns : List Int) (x : Int) : ∀ (f lo hi : Nat), hi - lo ≤ f → ∀ g, hi - lo ≤ g → bis ns x f lo hi = bis ns x g lo hi
  | 0, lo, hi, h, g, h2 => by
    cases g with
    | zero => rfl
    | succ g => rw [bis, bis, if_neg (by omega)]
  | f + 1, lo, hi, h, g, h2 => by
    cases g with
    | zero => rw [bis, bis, if_neg (by omega)]
    | succ g =>
      rw [bis, bis]
      by_cases hlt : lo < hi
      · rw [if_pos hlt, if_pos hlt, bis_more ns x f _ _ (by omega) g (by omega), bis_more ns x f _ _ (by omega) g (by omega)]
      · rw [if_neg hlt, if_neg hlt]
/-- the answer from lo to hi -/
def bisR (ns : List Int) (x : Int) (lo hi : Nat) : Nat := bis ns x (hi - lo) lo hi
theorem bisR_end (ns : List Int) (x : Int) {lo hi : Nat} (h : ¬ lo < hi) : bisR ns x lo hi = lo := by
  unfold bisR
  cases e : hi - lo with
  | zero => rfl
  | succ f => omega
theorem bisR_lt (ns : List Int) (x : Int) {lo hi : Nat} (h : lo < hi) (hx : x < ns.getD ((lo + hi) / 2) 0) : bisR ns x lo hi = bisR ns x lo ((lo + hi) / 2) := by
  unfold bisR
  rw [bis_more ns x (hi - lo) lo hi (by omega) (hi - lo + 1) (by omega), bis, if_pos h, if_pos hx, bis_more ns x _ _ _ (by omega)]
  omega
theorem bisR_ge (ns : List Int) (x : Int) {lo hi : Nat} (h : lo < hi) (hx : ¬ x < ns.getD ((lo + hi) / 2) 0) : bisR ns x lo hi = bisR ns x ((lo + hi) / 2 + 1) hi := by
  unfold bisR
  rw [bis_more ns x (hi - lo) lo hi (by omega) (hi - lo + 1) (by omega), bis, if_pos h, if_neg hx, bis_more ns x _ _ _ (by omega)]
  omega
def insAt (ns : List Int) (k : Nat) (x : Int) : List Int := ns.take k ++ x :: ns.drop k
theorem insAt_len (ns : List Int) (k : Nat) (x : Int) : (insAt ns k x).length = ns.length + 1 := by
  unfold insAt; rw [List.length_append, List.length_cons, List.length_take, List.length_drop]; omega
theorem ints_ins {vs : List Value} {ns : List Int} (h : IntsAre vs ns) (k : Nat) (x : Int) (t : Tok) (hk : k ≤ ns.length) : IntsAre (kl_ins vs (k : Int) (.int x t)) (insAt ns k x) := by
  have e : kl_ins vs (k : Int) (.int x t) = vs.take k ++ .int x t :: vs.drop k := by
    unfold kl_ins
    have hl := h.length
    have h1 : ¬ ((k : Int) < 0) := by omega
    simp only [h1, if_false, Int.toNat_natCast]
    rw [Nat.min_eq_left (by omega)]
    try simp
  rw [e]
  exact (h.take k).append (.cons x t (h.drop k))
theorem bis_le (ns : List Int) (x : Int) : ∀ (f lo hi : Nat), lo ≤ hi → bis ns x f lo hi ≤ hi
  | 0, lo, hi, h => h
  | f + 1, lo, hi, h => by
    rw [bis]
    split
    · split
      · exact Nat.le_trans (bis_le ns x f _ _ (by omega)) (by omega)
      · exact bis_le ns x f _ _ (by omega)
    · exact h
theorem bisR_le (ns : List Int) (x : Int) {lo hi : Nat} (h : lo ≤ hi) : bisR ns x lo hi ≤ hi := bis_le ns x _ _ _ h
end
section
open PySem PySem.W PyProof.Rows PySem.Calls
def lastZ (ns : List Int) : Int := ns.getD (ns.length - 1) 0
section
variable {prog : Program} {w : World} {A : Around} {E : Value → Shared → Prop} {s : Shared} {h₀ : Heap} {L : Addr} {news : List (Addr × Obj)} {Q : Value → Shared → Prop}
theorem last_I {value slice : Expr} {l : Addr} {vs : List Value} {nn : Nat} {ns : List Int} {u : Tok} (N : News h₀ L s.heap news) (hm : (l, listOf vs.toArray nn) ∈ news) (hi : IntsAre vs ns) (h1 : 1 ≤ ns.length) (hl : ns.length ≤ 1000)
    (h : ∀ t, Q (.int (lastZ ns) t) s)
    (hs : subscripted slice false (.ref l) (.int (-1) u) = operate [.ref l, .int (-1) u] (getItem (.ref l) (.int (-1) u)) := by with_unfolding_all rfl) (hg : ∀ r, letTemporaryGo value (.ref l) r = pure () := by intro _; with_unfolding_all rfl) :
    wpAny (model prog w) A (subscriptTail value slice (.ref l) (.int (-1) u)) Q E s := by
  have hlen := hi.length
  have hkn : ns.length - 1 < ns.length := by omega
  obtain ⟨t, ht⟩ := hi.get (ns.length - 1) (ns[ns.length - 1]'hkn) (List.getElem?_eq_getElem hkn)
  refine kim_back (l := vs) N hm rfl rfl (by decide) (by omega) (by decide) (x := .int (ns[ns.length - 1]'hkn) t) ?_ ?_ hs hg
  · rw [← ht]; congr 1; omega
  have e : lastZ ns = ns[ns.length - 1]'hkn := by unfold lastZ; simp [List.getD, List.getElem?_eq_getElem hkn]
  rw [← e]
  exact h t
end
theorem lastZ_snoc (ns : List Int) (x : Int) : lastZ (ns ++ [x]) = x := by
  unfold lastZ; simp [List.getD]
def halves : Nat → Nat → Nat
  | 0, n => n
  | r + 1, n => (halves r n + 1) / 2
theorem halves_le {n b : Nat} (h : n ≤ b) (hb : 1 ≤ b) : ∀ r, halves r n ≤ b
  | 0 => h
  | r + 1 => by have := halves_le h hb r; show (halves r n + 1) / 2 ≤ b; omega
theorem halves_pos {n : Nat} (h : 1 ≤ n) : ∀ r, 1 ≤ halves r n
  | 0 => h
  | r + 1 => by have := halves_pos h r; show 1 ≤ (halves r n + 1) / 2; omega
/-- a row of the ring: from its first number on -/
def rowGo (step readings : Nat) : Nat → List Int → List Int
  | 0, row => row
  | f + 1, row => if lastZ row ≤ 6 * ((step : Int) - 1) then rowGo step readings f (row ++ [lastZ row + (halves readings (lastZ row).toNat : Nat)]) else row
def rowF (step readings left : Nat) : List Int := rowGo step readings 49 [(left * step + 1 : Nat)]
theorem dat_ints {news : List (Addr × Obj)} : ∀ {vs : List Value} {ns : List Int}, IntsAre vs ns → DatAll news vs (ns.map Dat.int)
  | _, _, .nil => .nil
  | _, _, .cons n t h => .cons (.int n t) (dat_ints h)
theorem ints_dat {news : List (Addr × Obj)} : ∀ {ns : List Int} {vs : List Value}, DatAll news vs (ns.map Dat.int) → IntsAre vs ns := by
  intro ns
  induction ns with
  | nil => intro vs h; cases h; exact .nil
  | cons n ns ih =>
    intro vs h
    rw [List.map_cons] at h
    cases h with
    | cons h1 h2 => cases h1 with
      | int i t => exact .cons n t (ih h2)
def dints (ns : List Int) : Dat := Dat.list (ns.map Dat.int)
theorem rowGo_on {step readings f : Nat} {row : List Int} (h : lastZ row ≤ 6 * ((step : Int) - 1)) : rowGo step readings (f + 1) row = rowGo step readings f (row ++ [lastZ row + (halves readings (lastZ row).toNat : Nat)]) := by
  rw [rowGo, if_pos h]
theorem rowGo_end {step readings f : Nat} {row : List Int} (h : ¬ lastZ row ≤ 6 * ((step : Int) - 1)) : rowGo step readings f row = row := by
  cases f with
  | zero => rfl
  | succ f => rw [rowGo, if_neg h]
end
section
open PySem PySem.W PyProof.Rows PySem.Calls
theorem plainAttrs_pat : PlainAttrs "re.Pattern" :=
  ⟨⟨"object.__getattribute__", by rw [typeLookup_type, builtinLookup_eq_fast]; kernel_rfl, by decide +kernel⟩, by rw [typeLookup_type, builtinLookup_eq_fast]; kernel_rfl⟩
theorem slot_search : Slot "re.Pattern" "search" "re.Pattern.search" :=
  .of (owner := "re.Pattern") (n := "search") (by rw [typeLookup_type, builtinLookup_eq_fast]; kernel_rfl) (by decide +kernel) (by decide +kernel) (by decide +kernel)
    (by first | exact .inl (by decide +kernel) | exact .inr (by decide +kernel)) (by rw [isSubtype_type]; kernel_rfl)
theorem type_search : typeOf (.builtin "re.Pattern.search") = pure (.type "method_descriptor") := by show builtinType _ = _; rw [builtinType_eq_fast]; kernel_rfl
theorem entry_search : entryFor table "re.Pattern.search" = some Builtin.«re.Pattern.search» := entryFor_of_tree (by kernel_rfl)
theorem owner_pat : Manifest.owners.lookup (String.ofList ['n', 'r', 'e', 't', 't', 'a', 'P', '.', 'e', 'r'].reverse) = some Manifest.sig_re_Pattern := by kernel_rfl
theorem args_search_2 (a b : Value) : argsOk "re.Pattern.search" ⟨[a, b], []⟩ := by
  unfold argsOk; rw [signature?_of (id := "re.Pattern.search") (n := ['h', 'c', 'r', 'a', 'e', 's']) (o := ['n', 'r', 'e', 't', 't', 'a', 'P', '.', 'e', 'r']) (by kernel_rfl) owner_pat]; kernel_rfl
end
section
open PySem PySem.W PyProof.Rows PySem.Calls PySem.Builtin PySem.Builtin.Re
def nameCode : Array Nat := #[14, 10, 4, 1, 1, 22, 0, 31, 16, 127, 0, 13, 7, 22, 0, 31, 16, 127, 0, 1]
def valueCode : Array Nat := #[14, 14, 4, 1, 1, 9, 4294966783, 0, 0, 2147483648, 0, 0, 0, 0, 0, 13, 11, 9, 4294966783, 0, 0, 2147483648, 0, 0, 0, 0, 0, 1]
def Clean (x : Array Nat) : Prop := ∀ c ∈ x.toList, 32 ≤ c ∧ c < 127
def Out (code : Array Nat) (c : Nat) : Prop := ∀ seen, ∃ seen', Sre.inSet code c code.size 5 true seen = .ok (false, seen')
theorem out_name {c : Nat} (h : 32 ≤ c ∧ c < 127) : Out nameCode c := by
  intro seen
  have h1 : ¬ c ≤ 31 := by omega
  have h2 : c ≠ 127 := by omega
  refine ⟨((seen.add 22).add 16).add 0, ?_⟩
  show Sre.inSet nameCode c 20 5 true seen = _
  simp [Sre.inSet, nameCode, Sre.ops, h1, h2]
theorem out_value {c : Nat} (h : 32 ≤ c ∧ c < 127) : Out valueCode c := by
  intro seen
  have hbit : ∀ c : Nat, c < 127 → 32 ≤ c → (valueCode.getD (5 + (1 + c / 32)) 0).testBit (c % 32) = false := by decide +kernel
  refine ⟨(seen.add 9).add 0, ?_⟩
  show Sre.inSet valueCode c 28 5 true seen = _
  rw [Sre.inSet]
  have e9 : Sre.ops[valueCode.getD (5 + 0) 0]? = some .CHARSET := by rfl
  simp only [e9]
  rw [hbit c h.2 h.1]
  simp [Sre.inSet, valueCode, Sre.ops]
theorem named_eq (v : Value) : reNamed "re.Pattern.search" "search" ["string", "pos", "endpos"] 1 [v] [] = pure [some v, none, none] := by rfl
theorem admitted_none {code text : Array Nat} (m : Sre.M) (hc : m.code = code) (ht : m.text = text) (hl : m.lim = text.size) (h : ∀ c ∈ text.toList, Out code c) :
    ∀ (fuel i : Nat) (seen : Sre.Seen), ∃ seen', Sre.M.admitted m fuel i seen = .ok (none, seen')
  | 0, i, seen => ⟨seen, rfl⟩
  | fuel + 1, i, seen => by
    unfold Sre.M.admitted
    by_cases hi : i ≥ m.lim
    · exact ⟨seen, by rw [if_pos hi]⟩
    · rw [if_neg hi]
      have hi' : i < text.size := by rw [← hl]; omega
      have hm : m.text.getD i 0 ∈ text.toList := by
        rw [ht]
        simp [Array.getD, hi']
      obtain ⟨s1, e1⟩ := h _ hm seen
      rw [hc, e1]
      exact admitted_none m hc ht hl h fuel (i + 1) s1
structure Done (m : Sre.M) : Prop where
  a : m.answer = some false
  f : m.frames = []
  o : m.outcome = none
theorem attempt_done {code text : Array Nat} (h2 : code.getD 2 0 = 4) (h0 : Sre.ops[code.getD 0 0]? = some .INFO) (h : ∀ c ∈ text.toList, Out code c) (m : Sre.M) (hc : m.code = code) (ht : m.text = text) (hl : m.lim = text.size)
    (hf : m.frames = []) (ho : m.outcome = none) (i : Nat) (b : Bool) : Done (m.attemptFrom i b) := by
  unfold Sre.M.attemptFrom
  have hfs : Sre.M.hasFirstSet m = true := by
    unfold Sre.M.hasFirstSet
    rw [hc, h0, h2]; rfl
  obtain ⟨s2, e2⟩ := admitted_none m hc ht hl h (m.lim + 1 - i) i m.seen
  rw [hfs, e2]
  exact ⟨rfl, hf, ho⟩
theorem for_done {k : Nat} {code text : Array Nat} (hh : Sre.header code = (1, k)) (h2 : code.getD 2 0 = 4) (h0 : Sre.ops[code.getD 0 0]? = some .INFO) (h : ∀ c ∈ text.toList, Out code c) :
    Done (Sre.forSearch code text 0 0 text.size false) := by
  unfold Sre.forSearch
  rw [hh]
  dsimp only
  split
  · exact ⟨rfl, rfl, rfl⟩
  · exact attempt_done h2 h0 h _ rfl rfl rfl rfl rfl _ _
theorem done_runs {m : Sre.M} (d : Done m) : m.runFor reTurnSteps = { m with outcome := some .failed } := by
  obtain ⟨a, f, o⟩ := d
  unfold reTurnSteps
  rw [Sre.M.runFor, o]
  simp only [Option.isSome_none, Bool.false_eq_true, if_false]
  have hs : m.step = { m with outcome := some .failed } := by
    unfold Sre.M.step
    rw [o, a, f]
    simp
  rw [hs, Sre.M.runFor]
  simp
theorem run_none {M : Model} {A : Around} {E : Value → Shared → Prop} {s : Shared} {m : Sre.M} (d : Done m) {Q : Option Sre.M → Shared → Prop} (h : Q none s) : wpAny M A (reRunToEnd m) Q E s := by
  unfold reRunToEnd
  have hd : reDrive (2 ^ 64) m = pure { m with outcome := some .failed } := by
    rw [show (2 : Nat) ^ 64 = (2 ^ 64 - 1) + 1 from by decide, reDrive, done_runs d]
    simp
  rw [hd]
  refine wpAny_bind (wpAny_pure ?_)
  refine wpAny_bind ?_
  refine wpAny_forIn_list _ (fun _ _ s' => s' = s) _ ?_ ?_ _ _ rfl
  · rintro i rest b s1 rfl
    split
    · exact wpAny_bind (wpAny_rule (wpAny_pure rfl))
    · exact wpAny_pure rfl
  · rintro b s1 rfl
    exact wpAny_pure h
end
section
open PySem PySem.W PyProof.Rows PySem.Calls PySem.Builtin PySem.Builtin.Re
structure PatAt (h : Heap) (P : Addr) (code : Array Nat) : Prop where
  ex : ∃ oP fs C oC items n, h.get? P = some oP ∧ oP.cls = .type "re.Pattern" ∧ oP.dict = none ∧ oP.data = .fields fs ∧ fs.getD 5 .none = .ref C ∧ reRawNat (fs.getD 6 .none) = 0 ∧ reRawNat (fs.getD 2 .none) = 0 ∧ h.get? C = some oC ∧ oC.data = .seq items n ∧ (items.map reRawOf).map (·.toNat) = code
section
variable {M : Model} {A : Around} {E : Value → Shared → Prop} {s : Shared}
theorem target_at {P : Addr} {code : Array Nat} {x : Str} {t : Tok} {Q : ReTarget → Shared → Prop} (hp : PatAt s.heap P code) (hx : x.length ≤ 1000000)
    (h : Q ⟨.ref P, .str x t, code, x.cps, 0, 0, 0, x.cps.size⟩ s) : wpAny M A (reTarget "re.Pattern.search" "search" ⟨[.ref P, .str x t], []⟩) Q E s := by
  obtain ⟨oP, fs, C, oC, items, n, g1, g2, g3, g4, g5, g6, g7, g8, g9, g10⟩ := hp.ex
  unfold reTarget
  dsimp only
  rw [named_eq]
  refine wpAny_bind (wpAny_pure ?_)
  dsimp only
  refine wpAny_bind (wpAny_pure ?_)
  refine wpAny_bind (wpAny_pure ?_)
  refine wpAny_bind ?_
  unfold fieldsOf
  refine wpAny_bind (wpAny_load g1 ?_)
  rw [g4]
  refine wpAny_pure ?_
  refine wpAny_bind ?_
  unfold reTextOf
  refine wpAny_bind (wpAny_pure ?_)
  dsimp only
  refine wpAny_pure ?_
  dsimp only
  rw [g6]
  simp only [show ((0 : Nat) == 0 && (0 : Nat) == 1) = false from rfl, show ((0 : Nat) == 1 && (0 : Nat) == 0) = false from rfl, Bool.false_eq_true, if_false]
  refine wpAny_bind ?_
  unfold reNoCollectionInside
  simp only [show ((0 : Nat) == 1) = false from rfl, Bool.false_eq_true, if_false]
  refine wpAny_pure ?_
  rw [g5, g7]
  refine wpAny_bind ?_
  unfold reRawItems seqItems?
  refine wpAny_bind ?_
  refine wpAny_bind (wpAny_load g8 ?_)
  rw [g9]
  refine wpAny_pure ?_
  refine wpAny_pure ?_
  refine wpAny_pure ?_
  simp only [Option.getD_some, g10]
  have e1 : Min.min (Int.toNat 0) x.cps.size = 0 := by simp
  have e2 : Min.min (2 ^ 63 - 1 : Int).toNat x.cps.size = x.cps.size := by
    apply Nat.min_eq_right
    unfold Str.length at hx
    omega
  rw [e1, e2]
  exact h
end
section
variable {prog : Program} {w : World} {A : Around} {E : Value → Shared → Prop} {s : Shared}
theorem search_rule {P : Addr} {code : Array Nat} {k : Nat} {x : Str} {t : Tok} {Q : Value → Shared → Prop} (hp : PatAt s.heap P code) (hx : x.length ≤ 1000000) (hh : Sre.header code = (1, k)) (h2 : code.getD 2 0 = 4) (h0 : Sre.ops[code.getD 0 0]? = some .INFO)
    (hc : ∀ c ∈ x.cps.toList, Out code c) (h : Q .none s) : wpAny (model prog w) A (call (.builtin "re.Pattern.search") [.ref P, .str x t]) Q E s := by
  have hT : s.TypeIs (.ref P) "re.Pattern" := by
    obtain ⟨oP, fs, C, oC, items, n, g1, g2, _⟩ := hp.ex
    exact ⟨_, g1, g2⟩
  refine call_meets (S := fun _ R s' => s' = s ∧ R (.ok (.ret .none)) s) slot_search hT entry_search (args_search_2 _ _) (.of_wp fun prog w A R s' h' => ?_) ⟨rfl, h⟩
  obtain ⟨rfl, h'⟩ := h'
  unfold Builtin.«re.Pattern.search»
  refine wpAny_bind (target_at hp hx ?_)
  unfold reAnswer
  refine wpAny_bind (run_none (for_done hh h2 h0 hc) ?_)
  exact wpAny_pure ⟨_, rfl, h'⟩
theorem search_name {P : Addr} {x : Str} {t : Tok} {Q : Value → Shared → Prop} (hp : PatAt s.heap P nameCode) (hx : x.length ≤ 1000000) (hc : Clean x.cps) (h : Q .none s) : wpAny (model prog w) A (call (.builtin "re.Pattern.search") [.ref P, .str x t]) Q E s :=
  search_rule (k := 11) hp hx (by rfl) (by rfl) (by rfl) (fun c h9 => out_name (hc c h9)) h
theorem search_value {P : Addr} {x : Str} {t : Tok} {Q : Value → Shared → Prop} (hp : PatAt s.heap P valueCode) (hx : x.length ≤ 1000000) (hc : Clean x.cps) (h : Q .none s) : wpAny (model prog w) A (call (.builtin "re.Pattern.search") [.ref P, .str x t]) Q E s :=
  search_rule (k := 15) hp hx (by rfl) (by rfl) (by rfl) (fun c h9 => out_value (hc c h9)) h
theorem method_search {P : Addr} {code : Array Nat} {pl : Sem Bool} {Q : Value × List Value → Shared → Prop} (hp : PatAt s.heap P code) (h : Q (.builtin "re.Pattern.search", [.ref P]) s) :
    wpAny (model prog w) A (getMethod (.ref P) (Str.ofString "search") pl) Q E s := by
  obtain ⟨oP, fs, C, oC, items, n, g1, g2, g3, _⟩ := hp.ex
  exact getMethod_builtin ⟨_, g1, g2⟩ plainAttrs_pat slot_search type_search (fun a e => by cases e; exact ⟨_, g1, g3⟩) h
end
end
section
open PySem PySem.W PyProof.Rows PySem.Calls PySem.Builtin PySem.Builtin.Str
def lo (c : Nat) : Nat := if 65 ≤ c ∧ c ≤ 90 then c + 32 else c
def up (c : Nat) : Nat := if 97 ≤ c ∧ c ≤ 122 then c - 32 else c
def sw (c : Nat) : Nat := if 65 ≤ c ∧ c ≤ 90 then c + 32 else if 97 ≤ c ∧ c ≤ 122 then c - 32 else c
theorem lower_c : ∀ c : Nat, c < 128 → Unicode.lowerOf c = [lo c] := by decide +kernel
theorem upper_c : ∀ c : Nat, c < 128 → Unicode.upperOf c = [up c] := by decide +kernel
theorem isUpper_c : ∀ c : Nat, c < 128 → Unicode.isUpper c = decide (65 ≤ c ∧ c ≤ 90) := by decide +kernel
theorem isLower_c : ∀ c : Nat, c < 128 → Unicode.isLower c = decide (97 ≤ c ∧ c ≤ 122) := by decide +kernel
theorem placed_one (x : Str) (f : Nat → Nat → List Nat) (g : Nat → Nat) (h : ∀ i c, x.cps.toList[i]? = some c → f i c = [g c]) : placed x f = (x.cps.toList.map g).toArray := by
  unfold placed
  apply Array.toList_inj.mp
  have e : (x.cps.mapIdx fun i c => (f i c).toArray) = (x.cps.map fun c => #[g c]) := by
    apply Array.ext
    · simp
    · intro i h1 h2
      have hi : i < x.cps.size := by simpa using h1
      have := h i (x.cps[i]) (by simp [hi])
      simp [this]
  rw [e]
  have this : ∀ l : List Nat, (List.map (Array.toList ∘ fun c => #[g c]) l).flatten = l.map g := by
    intro l
    induction l with
    | nil => rfl
    | cons a r ih => rw [List.map_cons, List.flatten_cons, ih]; rfl
  obtain ⟨⟨l⟩⟩ := x
  simp [this]
theorem lowerAt_c {x : Str} {i c : Nat} (h : x.cps.toList[i]? = some c) (hc : c < 128) : Unicode.lowerAt x.cps i = [lo c] := by
  unfold Unicode.lowerAt
  have : x.cps[i]? = some c := by simpa using h
  rw [this]
  have h3 : (c == 0x3A3) = false := by simp; omega
  simp [h3, lower_c c hc]
def Asc (l : List Nat) : Prop := ∀ c ∈ l, c < 128
theorem lower_tx {l : List Nat} (h : Asc l) : Txt.lower (tx l) = tx (l.map lo) := by
  unfold Txt.lower
  rw [placed_one (tx l) _ lo (fun i c e => lowerAt_c e (h c (by rw [tx_cps] at e; exact List.mem_of_getElem? e))), tx_cps]
  rfl
theorem upper_tx {l : List Nat} (h : Asc l) : Txt.upper (tx l) = tx (l.map up) := by
  unfold Txt.upper
  rw [placed_one (tx l) _ up (fun i c e => upper_c c (h c (by rw [tx_cps] at e; exact List.mem_of_getElem? e))), tx_cps]
  rfl
theorem swap_tx {l : List Nat} (h : Asc l) : Txt.swapcase (tx l) = tx (l.map sw) := by
  unfold Txt.swapcase
  rw [placed_one (tx l) _ sw (fun i c e => ?_), tx_cps]
  · rfl
  · have hc : c < 128 := h c (by rw [tx_cps] at e; exact List.mem_of_getElem? e)
    rw [isUpper_c c hc, isLower_c c hc, lowerAt_c e hc, upper_c c hc]
    unfold sw lo up
    by_cases h1 : 65 ≤ c ∧ c ≤ 90
    · simp [h1]
    · by_cases h2 : 97 ≤ c ∧ c ≤ 122 <;> simp [h1, h2]
section
variable {prog : Program} {w : World} {A : Around} {E : Value → Shared → Prop} {s : Shared} {h₀ : Heap} {env : Env} {target : Expr} {body : List Stmt} {Q : Flow → Shared → Prop}
/-- a turn's end -/
def EndJ (h₀ : Heap) (L : Addr) (s₁ : Shared) (it : Addr × Obj) (J : (Str → Option Value) → List (Addr × Obj) → Prop) (s₂ : Shared) : Prop :=
  ∃ h' tk m' news', s₂ = { s₁ with heap := h', toks := tk } ∧ Fr h₀ L h' m' ∧ News h₀ L h' (it :: news') ∧ (∀ p ∈ news', p.1 ≠ it.1) ∧ J m' news'
def PostJ (h₀ : Heap) (L : Addr) (s₁ : Shared) (it : Addr × Obj) (J : (Str → Option Value) → List (Addr × Obj) → Prop) (Q : Flow → Shared → Prop) (f : Flow) (s₂ : Shared) : Prop :=
  match f with
  | .ret v => Q (.ret v) s₂
  | .brk => Q .next s₂
  | _ => EndJ h₀ L s₁ it J s₂
theorem iter_J {ax : Addr} {vs : List Value} {nn : Nat} {m₀ : Str → Option Value} {news : List (Addr × Obj)} (J : Nat → (Str → Option Value) → List (Addr × Obj) → Prop)
    (hh : A.handled = none) (F : Fr h₀ env.locals s.heap m₀) (N : News h₀ env.locals s.heap news) (hkeep : ∀ i m n, J i m n → (ax, listOf vs.toArray nn) ∈ n) (hj : J 0 m₀ news)
    (turn : ∀ i v m₁ news₁ h tk (I : Addr) (oI : Obj), vs[i]? = some v → J i m₁ news₁ → (∀ p ∈ news₁, p.1 ≠ I) → Fr h₀ env.locals h m₁ → News h₀ env.locals h ((I, oI) :: news₁) →
      wpAny (model prog w) A (assign target env v) (fun _ s₂ => wpAny (model prog w) A (execs body env) (PostJ h₀ env.locals { s with heap := h, toks := tk } (I, oI) (J (i + 1)) Q) E s₂) E { s with heap := h, toks := tk })
    (done : ∀ m₁ news₁ h tk, J vs.length m₁ news₁ → Fr h₀ env.locals h m₁ → News h₀ env.locals h news₁ → Q .next { s with heap := h, toks := tk }) :
    wpAny (model prog w) A (pyIter (.ref ax)) (fun it s₂ => TurnsAt prog w A h₀ env target body Q E it s₂) E s := by
  refine iter_listTurns hh F N (hkeep _ _ _ hj) rfl rfl fun I hI => ?_
  have all : ∀ (k i : Nat) (m₁ : Str → Option Value) (news₁ : List (Addr × Obj)), i + k = vs.length → J i m₁ news₁ → (∀ p ∈ news₁, p.1 ≠ I) →
      ItemsRest prog w A E h₀ env target body Q s [(I, "list_iterator")] [(ax, listOf vs.toArray nn)] ((vs.drop i).map .val) m₁ news₁ := by
    intro k
    induction k with
    | zero =>
      intro i m₁ news₁ hi hJ hoff
      rw [List.drop_eq_nil_of_le (by omega)]
      obtain rfl : i = vs.length := by omega
      exact fun h tk F' N' => done m₁ news₁ h tk hJ F' N'
    | succ k ih =>
      intro i m₁ news₁ hi hJ hoff
      have hlt : i < vs.length := by omega
      rw [List.drop_eq_getElem_cons hlt]
      intro v h tk hv F'
      have hv' : v = vs[i] := hv
      subst hv'
      intro oI hcls N'
      refine wpAny_mono (turn i _ m₁ news₁ h tk I oI (List.getElem?_eq_getElem hlt) hJ hoff F' N') (fun _ s₂ h₂ => ?_) fun _ _ e => e
      refine wpAny_mono h₂ (fun f s₃ h₃ => ?_) fun _ _ e => e
      have fin : EndJ h₀ env.locals { s with heap := h, toks := tk } (I, oI) (J (i + 1)) s₃ →
          UnrEndW h₀ env.locals { s with heap := h, toks := tk } [(I, oI)] (fun m' n' => SubL [(ax, listOf vs.toArray nn)] n' ∧ ItemsRest prog w A E h₀ env target body Q s [(I, "list_iterator")] [(ax, listOf vs.toArray nn)] ((vs.drop (i + 1)).map .val) m' n') s₃ := by
        rintro ⟨h', tk', m', news', e, F₂, N₂, off, hJ'⟩
        refine ⟨h', tk', m', news', e, F₂, N₂, fun p hp q hq => by rw [List.mem_singleton.mp hq]; exact off p hp, ⟨hkeep _ _ _ hJ', trivial⟩, ih (i + 1) m' news' (by omega) hJ' off⟩
      cases f with
      | ret v => exact h₃
      | brk => exact h₃
      | next => exact fin h₃
      | cont => exact fin h₃
  have := all vs.length 0 m₀ news (by omega) hj (fun p hp => Nat.ne_of_lt (hI p hp))
  simpa using this
/-- a loop that leaves the ledger as it was -/
theorem iter_same {ax : Addr} {vs : List Value} {nn : Nat} {m₀ : Str → Option Value} {news : List (Addr × Obj)} (xs : List Str) (P : Nat → Prop)
    (hh : A.handled = none) (F : Fr h₀ env.locals s.heap m₀) (N : News h₀ env.locals s.heap news) (hm : (ax, listOf vs.toArray nn) ∈ news) (hp : P 0)
    (turn : ∀ i v (u : Str → Option Value) h tk (I : Addr) (oI : Obj), vs[i]? = some v → P i → (∀ p ∈ news, p.1 ≠ I) → Fr h₀ env.locals h (fun z => if xs.contains z = true then u z else m₀ z) → News h₀ env.locals h ((I, oI) :: news) →
      wpAny (model prog w) A (assign target env v) (fun _ s₂ => wpAny (model prog w) A (execs body env) (PostJ h₀ env.locals { s with heap := h, toks := tk } (I, oI) (fun m' n' => n' = news ∧ (∀ z, xs.contains z = false → m' z = m₀ z) ∧ P (i + 1)) Q) E s₂) E { s with heap := h, toks := tk })
    (done : ∀ (u : Str → Option Value) h tk, P vs.length → Fr h₀ env.locals h (fun z => if xs.contains z = true then u z else m₀ z) → News h₀ env.locals h news → Q .next { s with heap := h, toks := tk }) :
    wpAny (model prog w) A (pyIter (.ref ax)) (fun it s₂ => TurnsAt prog w A h₀ env target body Q E it s₂) E s := by
  have em : ∀ m₁ : Str → Option Value, (∀ z, xs.contains z = false → m₁ z = m₀ z) → (fun z => if xs.contains z = true then m₁ z else m₀ z) = m₁ := by
    intro m₁ h
    funext z
    cases hz : xs.contains z with
    | true => simp
    | false => simp [h z hz]
  refine iter_J (nn := nn) (fun i m n => n = news ∧ (∀ z, xs.contains z = false → m z = m₀ z) ∧ P i) hh F N (fun i m n h => h.1 ▸ hm) ⟨rfl, fun _ _ => rfl, hp⟩ ?_ ?_
  · rintro i v m₁ news₁ h tk I oI hv ⟨rfl, hmz, hP⟩ hoff F' N'
    exact turn i v m₁ h tk I oI hv hP hoff (by rw [em m₁ hmz]; exact F') N'
  · rintro m₁ news₁ h tk ⟨rfl, hmz, hP⟩ F' N'
    exact done m₁ h tk hP (by rw [em m₁ hmz]; exact F') N'
end
/-! pairs of texts -/
abbrev PT := List Nat × List Nat
def pairD (p : PT) : Dat := Dat.tuple [Dat.str (tx p.1), Dat.str (tx p.2)]
theorem pair_at {news : List (Addr × Obj)} {v : Value} {p : PT} (h : DatIn news v (pairD p)) : ∃ a t1 t2 n, v = .ref a ∧ (a, ({ cls := .type "tuple", data := .seq [Value.str (tx p.1) t1, Value.str (tx p.2) t2].toArray n } : Obj)) ∈ news := by
  unfold pairD at h
  cases h with
  | tuple hm hd =>
    cases hd with
    | cons h1 h2 => cases h1 with
      | str x t1 => cases h2 with
        | cons h3 h4 => cases h3 with
          | str y t2 => cases h4; exact ⟨_, t1, t2, _, rfl, hm⟩
def getF (ps : List PT) (k : List Nat) : Option (List Nat) := (ps.find? fun p => decide (p.1.map lo = k.map lo)).map (·.2)
structure HdAt (C : Addr) (news : List (Addr × Obj)) (x : Addr) (dx : Addr) (hs : Int) (tk : Tok) (nd : Nat) (lp : Addr) (vs : List Value) (nn : Nat) (ps : List PT) : Prop where
  inst : (x, instObj C dx) ∈ news
  dict : (dx, dictOf [⟨hs, .str (Str.ofString "_headers") tk, .ref lp⟩] nd) ∈ news
  list : (lp, listOf vs.toArray nn) ∈ news
  pairs : DatAll news vs (ps.map pairD)
theorem getF_at {ps : List PT} {k : List Nat} {i : Nat} {q : PT} (h : ∀ j p, j < i → ps[j]? = some p → p.1.map lo ≠ k.map lo) (hi : ps[i]? = some q) (hq : q.1.map lo = k.map lo) : getF ps k = some q.2 := by
  have : ps.find? (fun p => decide (p.1.map lo = k.map lo)) = some q := by
    obtain ⟨hl, e⟩ := List.getElem?_eq_some_iff.mp hi
    rw [List.find?_eq_some_iff_getElem]
    refine ⟨by simpa using hq, i, hl, e, fun j hj => ?_⟩
    have := h j _ hj (List.getElem?_eq_getElem (Nat.lt_trans hj hl))
    simpa using this
  unfold getF
  rw [this]; rfl
theorem endJ_same {h₀ : Heap} {L : Addr} {s₁ : Shared} {I : Addr} {oI : Obj} {news : List (Addr × Obj)} {m₀ m' : Str → Option Value} {xs : List Str} {P : Prop} {h' : Heap} {tk : Nat} (F : Fr h₀ L h' m') (N : News h₀ L h' ((I, oI) :: news)) (off : ∀ p ∈ news, p.1 ≠ I)
    (hz : ∀ z, xs.contains z = false → m' z = m₀ z) (hP : P) : EndJ h₀ L s₁ (I, oI) (fun m' n' => n' = news ∧ (∀ z, xs.contains z = false → m' z = m₀ z) ∧ P) { s₁ with heap := h', toks := tk } :=
  ⟨h', tk, m', news, rfl, F, N, off, rfl, hz, hP⟩
end
section
open PySem PySem.W PyProof.Rows PySem.Calls
open PyProof.Rows.LCg
theorem compEnd_mono {h₀ : Heap} {L : Addr} {m : Str → Option Value} {s₁ : Shared} {I : Addr} {oI : Obj} {C : Addr} {oC : Obj} {D : Addr} {oD : Obj} {S : List (Addr × Obj) → Prop} {rest rest' : Value → List (Addr × Obj) → Prop} {y : Value} {s₂ : Shared}
    (h : CompEnd h₀ L m s₁ I oI C oC D oD S rest y s₂) (k : ∀ y n, rest y n → rest' y n) : CompEnd h₀ L m s₁ I oI C oC D oD S rest' y s₂ := by
  obtain ⟨h', tk, n', e, F, N, o, s, r⟩ := h
  exact ⟨h', tk, n', e, F, N, o, s, k _ _ r⟩
section
variable {prog : Program} {w : World} {A : Around} {s : Shared} {h₀ : Heap} {L : Addr} {m : Str → Option Value} {env : Env} {elt ct : Expr} {x x₂ : Str} {scope : Scope} {cl : List (Str × Addr)} {S : List (Addr × Obj) → Prop} {P : Nat → Value → Prop} {Fin : List Value → List (Addr × Obj) → Prop}
theorem compP_J (J : Nat → List Value → List (Addr × Obj) → Prop) {n : Nat}
    (turn : ∀ i ys news, i < n → J i ys news → ∀ v, P i v → ∃ (t : Addr) (ot : Obj) (v₁ v₂ : Value) (nt : Nat), v = .ref t ∧ (t, ot) ∈ news ∧ ot.cls = .type "tuple" ∧ ot.data = .seq #[v₁, v₂] nt ∧
      ∀ I oI C oC D m₂ h tk (E' : Value → Shared → Prop), NsObj oC m₂ → m₂ x = some v₁ → m₂ x₂ = some v₂ → Fr h₀ L h m → News h₀ L h ((I, oI) :: (C, oC) :: (D, lst ys) :: news) → Off3 I C D news → ((@Ne Nat I C) ∧ (@Ne Nat I D) ∧ (@Ne Nat C D)) →
      wpAny (model prog w) A (eval elt (compEnvC scope cl C env)) (CompEnd h₀ L m { s with heap := h, toks := tk } I oI C oC D (lst ys) S (fun y news' => J (i + 1) (ys ++ [y]) news')) E' { s with heap := h, toks := tk })
    (fin : ∀ ys news, J n ys news → Fin ys news) : ∀ (k i : Nat) (ys : List Value) (news : List (Addr × Obj)), i + k = n → J i ys news → LCp.CompRestP prog w A h₀ L m env elt x x₂ scope cl s S P Fin k i ys news
  | 0, i, ys, news, hi, hJ => by
    obtain rfl : i = n := by omega
    exact fin ys news hJ
  | k + 1, i, ys, news, hi, hJ => by
    intro v hv
    obtain ⟨t, ot, v₁, v₂, nt, e1, e2, e3, e4, go⟩ := turn i ys news (by omega) hJ v hv
    refine ⟨t, ot, v₁, v₂, nt, e1, e2, e3, e4, fun I oI C oC D m₂ h tk E' a b c d e f g => ?_⟩
    exact wpAny_mono (go I oI C oC D m₂ h tk E' a b c d e f g) (fun y s₂ z => compEnd_mono z fun y' n' r => compP_J J turn fin k (i + 1) _ n' (by omega) r) fun _ _ x => x
theorem compU_J (J : Nat → List Value → List (Addr × Obj) → Prop) {n : Nat}
    (turn : ∀ i ys news, i < n → J i ys news → ∀ v I oI C oC D m₂ h tk (E' : Value → Shared → Prop), P i v → NsObj oC m₂ → m₂ x = some v → Fr h₀ L h m → News h₀ L h ((I, oI) :: (C, oC) :: (D, lst ys) :: news) → Off3 I C D news → ((@Ne Nat I C) ∧ (@Ne Nat I D) ∧ (@Ne Nat C D)) →
      wpAny (model prog w) A (eval elt (compEnvC scope cl C env)) (CompEnd h₀ L m { s with heap := h, toks := tk } I oI C oC D (lst ys) S (fun y news' => J (i + 1) (ys ++ [y]) news')) E' { s with heap := h, toks := tk })
    (fin : ∀ ys news, J n ys news → Fin ys news) : ∀ (k i : Nat) (ys : List Value) (news : List (Addr × Obj)), i + k = n → J i ys news → CompRest prog w A h₀ L m env elt x scope cl s S P Fin k i ys news
  | 0, i, ys, news, hi, hJ => by
    obtain rfl : i = n := by omega
    exact fin ys news hJ
  | k + 1, i, ys, news, hi, hJ => by
    intro v I oI C oC D m₂ h tk E' hv a b d e f g
    exact wpAny_mono (turn i ys news (by omega) hJ v I oI C oC D m₂ h tk E' hv a b d e f g) (fun y s₂ z => compEnd_mono z fun y' n' r => compU_J J turn fin k (i + 1) _ n' (by omega) r) fun _ _ x => x
theorem compT_J (J : Nat → List Value → List (Addr × Obj) → Prop) {n : Nat}
    (turn : ∀ i ys news, i < n → J i ys news → ∀ v I oI C oC D m₂ h tk (E' : Value → Shared → Prop), P i v → NsObj oC m₂ → m₂ x = some v → Fr h₀ L h m → News h₀ L h ((I, oI) :: (C, oC) :: (D, lst ys) :: news) → Off3 I C D news → ((@Ne Nat I C) ∧ (@Ne Nat I D) ∧ (@Ne Nat C D)) →
      wpAny (model prog w) A (isTrue ct (compEnvC scope cl C env) (eval ct (compEnvC scope cl C env))) (fun ok s' => if ok = true then
        wpAny (model prog w) A (eval elt (compEnvC scope cl C env)) (CompEnd h₀ L m { s with heap := h, toks := tk } I oI C oC D (lst ys) S (fun y news' => J (i + 1) (ys ++ [y]) news')) E' s'
        else CompEnd h₀ L m { s with heap := h, toks := tk } I oI C oC D (lst ys) S (fun _ news' => J (i + 1) ys news') Value.none s') E' { s with heap := h, toks := tk })
    (fin : ∀ ys news, J n ys news → Fin ys news) : ∀ (k i : Nat) (ys : List Value) (news : List (Addr × Obj)), i + k = n → J i ys news → LCt.CompRestT prog w A h₀ L m env ct elt x scope cl s S P Fin k i ys news
  | 0, i, ys, news, hi, hJ => by
    obtain rfl : i = n := by omega
    exact fin ys news hJ
  | k + 1, i, ys, news, hi, hJ => by
    intro v I oI C oC D m₂ h tk E' hv a b d e f g
    refine wpAny_mono (turn i ys news (by omega) hJ v I oI C oC D m₂ h tk E' hv a b d e f g) (fun ok s' z => ?_) fun _ _ x => x
    cases ok with
    | true =>
      simp only [if_true] at z ⊢
      exact wpAny_mono z (fun y s₂ z => compEnd_mono z fun y' n' r => compT_J J turn fin k (i + 1) _ n' (by omega) r) fun _ _ x => x
    | false =>
      simp only [Bool.false_eq_true, if_false] at z ⊢
      exact compEnd_mono z fun y' n' r => compT_J J turn fin k (i + 1) _ n' (by omega) r
end
/-- what the element's walk hands over where the ledger stays -/
theorem compEnd_same {h₀ : Heap} {L : Addr} {m : Str → Option Value} {s₁ : Shared} {I : Addr} {oI : Obj} {C : Addr} {oC : Obj} {D : Addr} {oD : Obj} {S : List (Addr × Obj) → Prop} {rest : Value → List (Addr × Obj) → Prop} {y : Value} {h' : Heap} {tk : Nat} {news : List (Addr × Obj)}
    (F : Fr h₀ L h' m) (N : News h₀ L h' ((I, oI) :: (C, oC) :: (D, oD) :: news)) (off : Off3 I C D news) (hS : S news) (r : rest y news) :
    CompEnd h₀ L m s₁ I oI C oC D oD S rest y { s₁ with heap := h', toks := tk } := ⟨h', tk, news, rfl, F, N, off, hS, r⟩
theorem off1_mem {D : Addr} : ∀ {l : List (Addr × Obj)}, Off1 D l → ∀ p ∈ l, p.1 ≠ D
  | [], _, _, h => nomatch h
  | q :: r, h, p, hp => by
    rcases List.mem_cons.mp hp with rfl | hp
    · exact h.1
    · exact off1_mem h.2 p hp
end
section
open PySem PySem.W PyProof.Rows PySem.Calls
section
variable {prog : Program} {w : World} {A : Around} {E : Value → Shared → Prop} {s : Shared}
/-- a list's full slice is stored: the store of all of another list -/
theorem setAll_at {l r sl : Addr} {its new : Array Value} {n k : Nat} {Q : Unit → Shared → Prop} (ho : s.heap.get? l = some (listOf its n)) (hr : s.heap.get? r = some (listOf new k)) (hs : s.heap.IsSliceOf sl .none .none .none)
    (hne : (l == r) = false) (h1 : its.size ≤ 1000000) (h2 : new.size ≤ 1000000)
    (hQ : Q () { s with heap := s.heap.update l (Obj.mapSeq (fun xs => xs.extract 0 0 ++ new ++ xs.extract its.size xs.size)) }) : wpAny (model prog w) A (setItem (.ref l) (.ref sl) (.ref r)) Q E s := by
  have hl : s.heap.IsList l its := PySem.IsL.isList (n := n) ho
  have hR : s.heap.IsList r new := PySem.IsL.isList (n := k) hr
  obtain ⟨os, hos, hcs, hds⟩ := id hs
  have hTs : s.TypeIs (.ref sl) "slice" := ⟨os, hos, hcs⟩
  unfold setItem
  try with_reducible refine wpAny_holding ?_
  first | refine wpAny_bind (wpAny_pure ?_) | skip
  refine wpAny_bind (wpAny_sequenceKey hl.typeIs (by decide) ?_)
  refine wpAny_bind (wpAny_callSpecial?_slot (name := Str.ofString "__setitem__") hl.typeIs slot_list_setitem
    (wpAny_call_entry slot_list_setitem hl.typeIs entry_list_setitem ?_ (args_list_setitem _ _ _)))
  show wpAny _ _ (Builtin.List.listSubscript? (.ref sl) >>= _) _ _ s
  refine wpAny_bind ?_
  unfold Builtin.List.listSubscript?
  refine wpAny_bind (wpAny_specialOf hTs slice_no_index ?_)
  simp only [Option.isNone_none, if_true]
  refine wpAny_pure ?_
  show wpAny _ _ (typeOf (.ref sl) >>= _) _ _ s
  refine wpAny_bind (wpAny_typeOf hTs ?_)
  rw [if_neg (by decide)]
  rw [listSliceParts_eq]
  refine wpAny_bind (wpAny_bind (wpAny_field hos hds (x := .none) rfl (wpAny_bind (wpAny_listPart .none ?_))))
  rw [if_neg (show ¬ ((rawPart none == rawInt 0) = true) from Bool.false_ne_true)]
  refine wpAny_bind (wpAny_field hos hds (x := .none) rfl (wpAny_bind (wpAny_listPart .none ?_)))
  refine wpAny_bind (wpAny_field hos hds (x := .none) rfl (wpAny_bind (wpAny_listPart .none (wpAny_pure ?_))))
  rw [if_neg (show ¬ (Builtin.List.listSameRef (.ref l) (.ref r) = true) from by rw [show Builtin.List.listSameRef (.ref l) (.ref r) = false from hne]; exact Bool.false_ne_true)]
  unfold Builtin.List.listAllItems
  refine wpAny_bind (wpAny_bind (wpAny_typeOf hR.typeIs ?_))
  rw [if_pos (by decide)]
  unfold Builtin.List.listItems
  refine wpAny_bind (wpAny_seqItems hr rfl (wpAny_pure ?_))
  refine wpAny_bind (wpAny_bind (wpAny_seqItems ho rfl (wpAny_pure ?_)))
  refine wpAny_bind (wpAny_of_eq (sliceIndices_raw none none none its.size (by simp)) ?_)
  have e1 : sliceBounds none none none its.size = (0, (its.size : Int), 1) := rfl
  rw [e1]
  dsimp only
  rw [if_pos (by decide)]
  refine wpAny_bind (wpAny_rule ?_)
  rw [if_neg (show ¬ (Builtin.List.listTooLong (its.size + new.size) = true) from by unfold Builtin.List.listTooLong; rw [sizeLine_eq]; simp only [decide_eq_true_eq]; omega)]
  have e2 : Int.toNat (max (0 : Int) (its.size : Int)) = its.size := by omega
  rw [e2]
  unfold Builtin.List.listUpdate
  refine wpAny_bind (wpAny_updateSeq ho rfl ?_ (by rw [sizeLine_eq]; omega) (by rw [sizeLine_eq]; simp; omega))
  refine wpAny_bind (wpAny_letGo ?_)
  exact wpAny_pure ⟨_, rfl, wpAny_pure hQ⟩
theorem setAll_K {h₀ : Heap} {L l r sl : Addr} {m : Str → Option Value} {news news' : List (Addr × Obj)} {its new : List Value} {n k : Nat} {Q : Unit → Shared → Prop} {h' : Heap} (F : Fr h₀ L h' m) (N : News h₀ L h' news)
    (hs : s.heap = h'.push { cls := .type "slice", data := .fields #[.none, .none, .none] }) (e : sl = h'.objs.size) (hr : (r, listOf new.toArray k) ∈ news) (U : Upd l (listOf its.toArray n) (listOf new.toArray (if new.length = its.length then n else n + 1)) news news')
    (hne : r ≠ l) (h1 : its.length ≤ 1000000) (h2 : new.length ≤ 1000000)
    (h : ∀ h₁, Fr h₀ L h₁ m → News h₀ L h₁ news' → Q () { s with heap := h₁ }) : wpAny (model prog w) A (setItem (.ref l) (.ref sl) (.ref r)) Q E s := by
  subst e
  obtain ⟨pre, post, rfl, rfl, a, b⟩ := U.split
  have z := N (l, listOf its.toArray n) (List.mem_append.mpr (.inr (.head _)))
  have F1 := F.push { cls := .type "slice", data := .fields #[.none, .none, .none] }
  have N1 : News h₀ L (h'.push { cls := .type "slice", data := .fields #[.none, .none, .none] }) (pre ++ (l, listOf its.toArray n) :: post) := fun p hp => N.push F { cls := .type "slice", data := .fields #[.none, .none, .none] } rfl p (List.mem_cons_of_mem _ hp)
  rw [← hs] at F1 N1
  have z1 := N1 (l, listOf its.toArray n) (List.mem_append.mpr (.inr (.head _)))
  refine setAll_at z1.1 (N1 _ hr).1 (by rw [hs]; exact Heap.IsSliceOf.new ..) (by simpa using fun hh => hne hh.symm) (by simpa using h1) (by simpa using h2) (h _ (F1.change (Heap.SameBut.update ..) z1.2.1 z1.2.2) ?_)
  refine ki_turn _ N1 a b ?_ ?_
  · apply Array.toList_inj.mp
    simp
  · by_cases hq : new.length = its.length
    · simp [hq]
    · simp [hq]
end
section
variable {M : Model} {A : Around} {E : Value → Shared → Prop} {s : Shared} {K : Frag} {x C L f : Addr} {h₀ : Heap} {m : Str → Option Value} {ox : Obj} {od : Option Obj} {i v : Value}
theorem delItem_K {Q : Unit → Shared → Prop} (F : Fr h₀ L s.heap m) (X₀ : K.In h₀) (I : InstAt s.heap x ox C od) (hq : noSeq K C = true) (hs : findIn K (.ref C) "__delitem__" = some (some (.ref f))) (hf : isFn K (.ref f) = true)
    (h : wpAny M A (call (.ref f) [.ref x, i]) (fun _ s' => Q () s') E s) : wpAny M A (delItem (.ref x) i) Q E s := by
  have X := X₀.keeps F.keep
  unfold delItem sequenceKey
  refine wpAny_holding (wpAny_bind (wpAny_bind (I.type.here ?_)))
  refine wpAny_bind ((anyM_none X hq).here ?_)
  rw [if_pos (show (!false) = true from rfl)]
  exact wpAny_pure (wpAny_bind (special_fn X I hs (beq_iff_eq.mp hf) (wpAny_mono h (fun _ _ z => wpAny_pure z) fun _ _ z => z)))
end
end
section
open PySem PySem.W PyProof.Rows PySem.Calls
section
variable {prog : Program} {w : World} {A : Around} {E : Value → Shared → Prop} {s : Shared} {env : Env} {h₀ : Heap} {x : Str} {body : List Stmt} {Q : Flow → Shared → Prop}
/-- what a turn of a range's loop leaves: the names told, the others as they were, the ledger anyhow -/
def RngS {σ : Type} (J : σ → List (Addr × Obj) → Prop) (ps : σ → List (Str × Value)) (x : Str) (stored : List Str) (m₀ : Str → Option Value) (m' : Str → Option Value) (nx : List (Addr × Obj)) : Prop :=
  ∃ c, (∀ p ∈ ps c, m' p.1 = some p.2) ∧ (∀ z, z ≠ x → (∀ p ∈ ps c, z ≠ p.1) → stored.contains z = false → m' z = m₀ z) ∧ J c nx
theorem range_S {σ : Type} {r : Addr} {a₀ b₀ : Int} {t₀ u₀ v₀ : Tok} {n : Nat} {m₀ : Str → Option Value} {news : List (Addr × Obj)} (J : Nat → σ → List (Addr × Obj) → Prop) (ps : σ → List (Str × Value)) (stored : List Str) (c₀ : σ)
    (hh : A.handled = none) (hr : IsRange s.heap r a₀ b₀ 1 t₀ u₀ v₀) (hsmall : Builtin.Range.small a₀ b₀ 1 = true) (hsz : Builtin.Range.rangeSize a₀ b₀ 1 = (n : Int)) (F : Fr h₀ env.locals s.heap m₀) (N : News h₀ env.locals s.heap news) (hk : ∀ p ∈ ps c₀, m₀ p.1 = some p.2) (hj : J 0 c₀ news)
    (turn : ∀ (i : Nat) (c : σ) (nx : List (Addr × Obj)) t (u : Str → Option Value) h tk own, i < n → OwnOff own (nx.map (·.1)) → J i c nx →
      Fr h₀ env.locals h (fun y => if y = x then some (.int (a₀ + (i : Int)) t) else kstB (fun z => if stored.contains z then u z else m₀ z) (ps c) y) → News h₀ env.locals h (nx ++ own) →
      wpAny (model prog w) A (execs body env) (InvPostG h₀ env.locals (RngS (J (i + 1)) ps x stored m₀) own { s with heap := h, toks := tk } Q) E { s with heap := h, toks := tk })
    (done : ∀ (c : σ) (nx : List (Addr × Obj)) (u : Str → Option Value) h tk, J n c nx → Fr h₀ env.locals h (fun y => if y = x then u y else kstB (fun z => if stored.contains z then u z else m₀ z) (ps c) y) → News h₀ env.locals h nx → Q .next { s with heap := h, toks := tk }) :
    wpAny (model prog w) A (pyIter (.ref r)) (fun it s₂ => LoopAtV prog w A h₀ env x body Q E it s₂) E s := by
  refine wpAny_pyIter_range hr hsmall ?_
  have W : Walks prog w A s.heap.objs.size [s.heap.objs.size] [s.heap.objs.size] n (fun i v => i < n ∧ ∃ t, v = .int (a₀ + i * 1) t)
      (fun i h => IsRangeIter h s.heap.objs.size (a₀ + (i : Nat) * 1) ((n : Int) - (i : Nat)) 1) := (Walks.range hh _ a₀ 1 n).bound
  refine kdr_loop (fun i m nx => RngS (J i) ps x stored m₀ m nx) W (fun _ h => h) (fun _ h => h) ?_ ?_ ?_ ?_ (by show IsRangeIter _ _ _ _ _; rw [hsz]; simpa using Heap.get?_push_size _ rfl) (F.push _) (fun p hp => ⟨Heap.get?_push_of_some _ (N p hp).1, (N p hp).2⟩) ⟨c₀, hk, fun _ _ _ _ => rfl, hj⟩ ?_ ?_
  · intro i h hi b hb
    rw [List.mem_singleton.mp hb]
    exact ⟨_, hi⟩
  · intro hm
    exact absurd F.ns.lt ((List.mem_singleton.mp hm) ▸ Nat.lt_irrefl _)
  · intro b hb
    rw [List.mem_singleton.mp hb]
    exact next_is_new F
  · intro p hp hI
    exact absurd (Heap.lt_size (N p hp).1) ((List.mem_singleton.mp hI) ▸ Nat.lt_irrefl _)
  · rintro i v m₁ nx h tk own hi ⟨_, t, rfl⟩ hoff ⟨c, h1, h2, hJ⟩ F₁ N₁
    have e1 : a₀ + (i : Int) * 1 = a₀ + (i : Int) := by omega
    rw [e1] at F₁
    exact turn i c nx t m₁ h tk own hi hoff hJ (kst_fr h1 h2 F₁) N₁
  · rintro m₁ nx h tk ⟨c, h1, h2, hJ⟩ F₁ N₁
    exact done c nx m₁ h tk hJ (kst_frOut h1 h2 F₁) N₁
theorem rng_end {σ : Type} {J : σ → List (Addr × Obj) → Prop} {ps : σ → List (Str × Value)} {stored : List Str} {m₀ : Str → Option Value} (c : σ) (nx : List (Addr × Obj)) {L : Addr} {m' : Str → Option Value} {own news' : List (Addr × Obj)} {s₁ : Shared} {h' : Heap} {tk : Nat}
    (F : Fr h₀ L h' m') (N : News h₀ L h' news') (hn : ∀ p ∈ nx, p ∈ news') (ho : ∀ p ∈ own, p ∈ news') (hoff : OwnOff own (nx.map (·.1)))
    (hk : ∀ p ∈ ps c, m' p.1 = some p.2) (hr : ∀ z, z ≠ x → (∀ p ∈ ps c, z ≠ p.1) → stored.contains z = false → m' z = m₀ z) (hj : J c nx) :
    InvEndG h₀ L (RngS J ps x stored m₀) own s₁ { s₁ with heap := h', toks := tk } :=
  ⟨h', tk, m', news', nx, rfl, F, N, hn, ho, hoff, c, hk, hr, hj⟩
theorem allLt_ne {D : Addr} : ∀ {l : List (Addr × Obj)}, AllLt D l → ∀ p ∈ l, p.1 ≠ D
  | [], _, _, h => nomatch h
  | q :: r, h, p, hp => by
    rcases List.mem_cons.mp hp with rfl | hp
    · exact Nat.ne_of_lt h.1
    · exact allLt_ne h.2 p hp
end
end
section
open PySem PySem.W PyProof.Rows PySem.Calls
def dec (n : Nat) : List Nat := if n < 10 then [48 + n] else [48 + n / 10, 48 + n % 10]
theorem dec_of : ∀ i : Nat, i < 40 → Str.ofString (toString (1 + (i : Int))) = tx (dec (i + 1)) := by decide +kernel
def delF (ps : List PT) (k : List Nat) : List PT := ps.filter fun p => decide (p.1.map lo ≠ k.map lo)
def ring0 (size : Nat) : List PT := (List.range size).map (fun j => ([97 + j], [])) ++ [([64 + size], [32, 48])]
def heardOf (ps : List PT) (k0 : List Nat) (i : Nat) : List Nat := (getF ps (k0.map sw)).getD [] ++ [32] ++ dec (i + 1)
def ringStep (step i : Nat) (st : List PT × List PT) : List PT × List PT :=
  match st.1 with
  | [] => st
  | (k0, _) :: _ =>
    if (i + 1) % step = 0 then (delF st.1 (k0.map sw), st.2 ++ [(k0, heardOf st.1 k0 i)]) else (delF st.1 (k0.map sw) ++ [(k0.map sw, heardOf st.1 k0 i)], st.2)
def ringN (size step : Nat) : Nat → List PT × List PT
  | 0 => (ring0 size, [])
  | i + 1 => ringStep step i (ringN size step i)
def okText (l : List Nat) : Bool := decide (l.length ≤ 900) && l.all fun c => decide (32 ≤ c) && decide (c < 127)
def ringOk (i : Nat) (st : List PT × List PT) : Bool :=
  match st.1 with
  | [] => false
  | (k0, _) :: _ => okText k0 && okText (k0.map sw) && okText (heardOf st.1 k0 i) && (getF st.1 (k0.map sw)).isSome && decide (st.1.length ≤ 100) && decide (st.2.length ≤ 100) && st.1.all fun p => okText p.1 && okText p.2
theorem ring_oks : ∀ size : Fin 6, ∀ i : Fin 30, (i.val < (size.val + 1) * 3 → ringOk i.val (ringN (size.val + 1) 3 i.val) = true) ∧ (i.val < (size.val + 1) * 5 → ringOk i.val (ringN (size.val + 1) 5 i.val) = true) := by decide +kernel
theorem ring_ends : ∀ size : Fin 6, (ringN (size.val + 1) 3 ((size.val + 1) * 3)).1 = [] ∧ (ringN (size.val + 1) 5 ((size.val + 1) * 5)).1 = [] := by decide +kernel
theorem ring_ok' {size step i : Nat} (h1 : 1 ≤ size) (h6 : size ≤ 6) (hs : step = 3 ∨ step = 5) (hi : i < size * step) : ringOk i (ringN size step i) = true := by
  obtain ⟨k, rfl⟩ : ∃ k, size = k + 1 := ⟨size - 1, by omega⟩
  rcases hs with rfl | rfl
  · exact (ring_oks ⟨k, by omega⟩ ⟨i, by omega⟩).1 hi
  · exact (ring_oks ⟨k, by omega⟩ ⟨i, by omega⟩).2 hi
theorem ring_end {size step : Nat} (h1 : 1 ≤ size) (h6 : size ≤ 6) (hs : step = 3 ∨ step = 5) : (ringN size step (size * step)).1 = [] := by
  obtain ⟨k, rfl⟩ : ∃ k, size = k + 1 := ⟨size - 1, by omega⟩
  rcases hs with rfl | rfl
  · exact (ring_ends ⟨k, by omega⟩).1
  · exact (ring_ends ⟨k, by omega⟩).2
structure OkT (l : List Nat) : Prop where
  len : l.length ≤ 900
  cs : ∀ c ∈ l, 32 ≤ c ∧ c < 127
theorem okText_of {l : List Nat} (h : okText l = true) : OkT l := by
  unfold okText at h
  simp only [Bool.and_eq_true, decide_eq_true_eq, List.all_eq_true] at h
  exact ⟨h.1, fun c hc => h.2 c hc⟩
theorem OkT.asc {l : List Nat} (h : OkT l) : Asc l := fun c hc => Nat.lt_of_lt_of_le (h.cs c hc).2 (by omega)
structure RingOk (i : Nat) (ps gs : List PT) (k0 y0 : List Nat) (r : List PT) (y : List Nat) : Prop where
  ps_eq : ps = (k0, y0) :: r
  k0_ok : OkT k0
  sw_ok : OkT (k0.map sw)
  heard_ok : OkT (y ++ [32] ++ dec (i + 1))
  get_eq : getF ps (k0.map sw) = some y
  len : ps.length ≤ 100
  glen : gs.length ≤ 100
  all : ∀ p ∈ ps, OkT p.1 ∧ OkT p.2
theorem ringOk_of {i : Nat} {ps gs : List PT} (h : ringOk i (ps, gs) = true) : ∃ k0 y0 r y, RingOk i ps gs k0 y0 r y := by
  unfold ringOk at h
  match ps, h with
  | (k0, y0) :: r, h =>
    simp only [Bool.and_eq_true, decide_eq_true_eq, List.all_eq_true] at h
    obtain ⟨⟨⟨⟨⟨⟨h1, h2⟩, h3⟩, h4⟩, h5⟩, h6⟩, h7⟩ := h
    obtain ⟨y, hy⟩ := Option.isSome_iff_exists.mp h4
    unfold heardOf at h3
    rw [hy] at h3
    exact ⟨k0, y0, r, y, rfl, okText_of h1, okText_of h2, okText_of h3, hy, h5, h6, fun p hp => ⟨okText_of (h7 p hp).1, okText_of (h7 p hp).2⟩⟩
theorem ring_turn {size step i : Nat} {ps gs : List PT} {k0 y0 : List Nat} {r : List PT} {y : List Nat} (h : ringN size step i = (ps, gs)) (R : RingOk i ps gs k0 y0 r y) :
    ringN size step (i + 1) = if (i + 1) % step = 0 then (delF ps (k0.map sw), gs ++ [(k0, y ++ [32] ++ dec (i + 1))]) else (delF ps (k0.map sw) ++ [(k0.map sw, y ++ [32] ++ dec (i + 1))], gs) := by
  show ringStep step i (ringN size step i) = _
  rw [h]
  obtain ⟨e, _, _, _, hg, _, _, _⟩ := R
  subst e
  unfold ringStep heardOf
  simp only [hg, Option.getD_some]
end
section
open PySem PySem.W PyProof.Rows PySem.Calls
section
variable {prog : Program} {w : World} {A : Around} {E : Value → Shared → Prop} {s : Shared} {env : Env} {h₀ : Heap} {x : Str} {body : List Stmt} {Q : Flow → Shared → Prop}
/-- a range's loop of any step; of the names told at a turn's end (ps), those of ps' are known in the next turn -/
theorem range_D {σ : Type} {r : Addr} {a₀ b₀ st : Int} {t₀ u₀ v₀ : Tok} {n : Nat} {m₀ : Str → Option Value} {news : List (Addr × Obj)} (J : Nat → σ → List (Addr × Obj) → Prop) (ps ps' : σ → List (Str × Value)) (stored : List Str) (c₀ : σ)
    (hh : A.handled = none) (hr : IsRange s.heap r a₀ b₀ st t₀ u₀ v₀) (hsmall : Builtin.Range.small a₀ b₀ st = true) (hsz : Builtin.Range.rangeSize a₀ b₀ st = (n : Int)) (F : Fr h₀ env.locals s.heap m₀) (N : News h₀ env.locals s.heap news) (hk : ∀ p ∈ ps c₀, m₀ p.1 = some p.2) (hj : J 0 c₀ news)
    (hps : ∀ c, ∀ p ∈ ps' c, p ∈ ps c) (hpt : ∀ c, ∀ p ∈ ps c, p ∈ ps' c ∨ stored.contains p.1 = true)
    (turn : ∀ (i : Nat) (c : σ) (nx : List (Addr × Obj)) t (u : Str → Option Value) h tk own, i < n → OwnOff own (nx.map (·.1)) → J i c nx →
      Fr h₀ env.locals h (fun y => if y = x then some (.int (a₀ + (i : Int) * st) t) else kstB (fun z => if stored.contains z then u z else m₀ z) (ps' c) y) → News h₀ env.locals h (nx ++ own) →
      wpAny (model prog w) A (execs body env) (InvPostG h₀ env.locals (RngS (J (i + 1)) ps x stored m₀) own { s with heap := h, toks := tk } Q) E { s with heap := h, toks := tk })
    (done : ∀ (c : σ) (nx : List (Addr × Obj)) (u : Str → Option Value) h tk, J n c nx → Fr h₀ env.locals h (fun y => if y = x then u y else kstB (fun z => if stored.contains z then u z else m₀ z) (ps c) y) → News h₀ env.locals h nx → Q .next { s with heap := h, toks := tk }) :
    wpAny (model prog w) A (pyIter (.ref r)) (fun it s₂ => LoopAtV prog w A h₀ env x body Q E it s₂) E s := by
  refine wpAny_pyIter_range hr hsmall ?_
  have W : Walks prog w A s.heap.objs.size [s.heap.objs.size] [s.heap.objs.size] n (fun i v => i < n ∧ ∃ t, v = .int (a₀ + i * st) t)
      (fun i h => IsRangeIter h s.heap.objs.size (a₀ + (i : Nat) * st) ((n : Int) - (i : Nat)) st) := (Walks.range hh _ a₀ st n).bound
  refine kdr_loop (fun i m nx => RngS (J i) ps x stored m₀ m nx) W (fun _ h => h) (fun _ h => h) ?_ ?_ ?_ ?_ (by show IsRangeIter _ _ _ _ _; rw [hsz]; simpa using Heap.get?_push_size _ rfl) (F.push _) (fun p hp => ⟨Heap.get?_push_of_some _ (N p hp).1, (N p hp).2⟩) ⟨c₀, hk, fun _ _ _ _ => rfl, hj⟩ ?_ ?_
  · intro i h hi b hb
    rw [List.mem_singleton.mp hb]
    exact ⟨_, hi⟩
  · intro hm
    exact absurd F.ns.lt ((List.mem_singleton.mp hm) ▸ Nat.lt_irrefl _)
  · intro b hb
    rw [List.mem_singleton.mp hb]
    exact next_is_new F
  · intro p hp hI
    exact absurd (Heap.lt_size (N p hp).1) ((List.mem_singleton.mp hI) ▸ Nat.lt_irrefl _)
  · rintro i v m₁ nx h tk own hi ⟨_, t, rfl⟩ hoff ⟨c, h1, h2, hJ⟩ F₁ N₁
    refine turn i c nx t m₁ h tk own hi hoff hJ (kst_fr (fun p hp => h1 p (hps c p hp)) (fun z hz hz2 hz3 => h2 z hz (fun p hp e => ?_) hz3) F₁) N₁
    rcases hpt c p hp with hp' | hp'
    · exact hz2 p hp' e
    · rw [← e, hz3] at hp'
      exact Bool.false_ne_true hp'
  · rintro m₁ nx h tk ⟨c, h1, h2, hJ⟩ F₁ N₁
    exact done c nx m₁ h tk hJ (kst_frOut h1 h2 F₁) N₁
/-- the same, the ledger as it was -/
theorem range_F {σ : Type} {r : Addr} {a₀ b₀ st : Int} {t₀ u₀ v₀ : Tok} {n : Nat} {m₀ : Str → Option Value} {news : List (Addr × Obj)} (P : Nat → σ → Prop) (ps : σ → List (Str × Value)) (stored : List Str) (c₀ : σ)
    (hh : A.handled = none) (hr : IsRange s.heap r a₀ b₀ st t₀ u₀ v₀) (hsmall : Builtin.Range.small a₀ b₀ st = true) (hsz : Builtin.Range.rangeSize a₀ b₀ st = (n : Int)) (F : Fr h₀ env.locals s.heap m₀) (N : News h₀ env.locals s.heap news) (hk : ∀ p ∈ ps c₀, m₀ p.1 = some p.2) (hj : P 0 c₀)
    (turn : ∀ (i : Nat) (c : σ) t (u : Str → Option Value) h tk own, i < n → OwnOff own (news.map (·.1)) → P i c →
      Fr h₀ env.locals h (fun y => if y = x then some (.int (a₀ + (i : Int) * st) t) else kstB (fun z => if stored.contains z then u z else m₀ z) (ps c) y) → News h₀ env.locals h (news ++ own) →
      wpAny (model prog w) A (execs body env) (InvPostG h₀ env.locals (RngS (fun c nx => nx = news ∧ P (i + 1) c) ps x stored m₀) own { s with heap := h, toks := tk } Q) E { s with heap := h, toks := tk })
    (done : ∀ (c : σ) (u : Str → Option Value) h tk, P n c → Fr h₀ env.locals h (fun y => if y = x then u y else kstB (fun z => if stored.contains z then u z else m₀ z) (ps c) y) → News h₀ env.locals h news → Q .next { s with heap := h, toks := tk }) :
    wpAny (model prog w) A (pyIter (.ref r)) (fun it s₂ => LoopAtV prog w A h₀ env x body Q E it s₂) E s :=
  range_D (fun i c nx => nx = news ∧ P i c) ps ps stored c₀ hh hr hsmall hsz F N hk ⟨rfl, hj⟩ (fun _ _ h => h) (fun _ _ h => .inl h)
    (fun i c nx t u h tk own hi ho hJ F2 N2 => by obtain ⟨e, hP⟩ := hJ; subst e; exact turn i c t u h tk own hi ho hP F2 N2)
    (fun c nx u h tk hJ F2 N2 => by obtain ⟨e, hP⟩ := hJ; subst e; exact done c u h tk hP F2 N2)
theorem rng_same {σ : Type} {P : σ → Prop} {ps : σ → List (Str × Value)} {stored : List Str} {m₀ : Str → Option Value} (c : σ) {L : Addr} {m' : Str → Option Value} {own news : List (Addr × Obj)} {s₁ : Shared} {h' : Heap} {tk : Nat}
    (F : Fr h₀ L h' m') (N : News h₀ L h' (news ++ own)) (hoff : OwnOff own (news.map (·.1)))
    (hk : ∀ p ∈ ps c, m' p.1 = some p.2) (hr : ∀ z, z ≠ x → (∀ p ∈ ps c, z ≠ p.1) → stored.contains z = false → m' z = m₀ z) (hj : P c) :
    InvEndG h₀ L (RngS (fun c nx => nx = news ∧ P c) ps x stored m₀) own s₁ { s₁ with heap := h', toks := tk } :=
  rng_end c news F N (fun p hp => List.mem_append.mpr (.inl hp)) (fun p hp => List.mem_append.mpr (.inr hp)) hoff hk hr ⟨rfl, hj⟩
end
theorem rangeSize_down (a : Nat) : Builtin.Range.rangeSize (a : Int) (-1) (-1) = ((a + 1 : Nat) : Int) := by
  unfold Builtin.Range.rangeSize
  rw [if_neg (by decide), if_pos (by omega)]
  simp
theorem small_down {a : Nat} (h : a < 1000000) : Builtin.Range.small (a : Int) (-1) (-1) = true := by
  unfold Builtin.Range.small
  rw [rangeSize_down]
  have h1 : ∀ i : Int, -1 ≤ i → i ≤ 1000000 → Builtin.Range.rangeFitsLong i = true := by
    intro i h2 h3
    unfold Builtin.Range.rangeFitsLong
    simp only [Bool.and_eq_true, decide_eq_true_eq]
    constructor <;> omega
  rw [h1 _ (by omega) (by omega), h1 (-1) (by omega) (by omega), h1 _ (by omega) (by omega), if_neg (by decide), show ((-1 : Int) + (-1 + 1)) = -1 from rfl, h1 (-1) (by omega) (by omega)]
  simp
end
section
open PySem PySem.W PyProof.Rows PySem.Calls
theorem dec_nat : ∀ i : Nat, i < 100 → Str.ofString (toString ((i : Nat) : Int)) = tx (dec i) := by decide +kernel
theorem dec_int {z : Int} (h0 : 0 ≤ z) (h1 : z < 100) : Str.ofString (toString z) = tx (dec z.toNat) := by
  obtain ⟨n, rfl⟩ := Int.eq_ofNat_of_zero_le h0
  exact dec_nat n (by omega)
def dueP (size step : Nat) (row : List Int) : Nat := bisR row ((size : Int) * ((step : Int) - 1)) 0 row.length
def heardU (size step : Nat) (row : List Int) (p : Nat) : Nat → List Nat
  | 0 => []
  | i + 1 => heardU size step row p i ++ [32] ++ dec ((size : Int) * (step : Int) + 1 - row.getD (p - i) 0).toNat
theorem dec_len (n : Nat) : (dec n).length ≤ 2 := by unfold dec; split <;> simp
theorem heardU_len' (size step : Nat) (row : List Int) (p : Nat) : ∀ k, (heardU size step row p k).length ≤ 3 * k
  | 0 => Nat.le_refl _
  | k + 1 => by
    have := heardU_len' size step row p k
    have := dec_len ((size : Int) * (step : Int) + 1 - row.getD (p - k) 0).toNat
    unfold heardU
    simp only [List.length_append, List.length_cons, List.length_nil]
    omega
theorem heardU_len (size step : Nat) (row : List Int) (p k : Nat) (h : k ≤ 100) : (heardU size step row p k).length ≤ 1000 := by
  have := heardU_len' size step row p k
  omega
def nameC (size step : Nat) (row : List Int) (p : Nat) : Nat := (97 + (size : Int) * (step : Int) - row.getD p 0).toNat
def nameU (size step : Nat) (row : List Int) (p : Nat) : List Nat := if p % 2 = 1 then [up (nameC size step row p)] else [nameC size step row p]
def dueOne (size step : Nat) (row : List Int) : PT := (nameU size step row (dueP size step row), heardU size step row (dueP size step row) (dueP size step row + 1))
def dueN (size step r : Nat) : Nat → List PT
  | 0 => []
  | i + 1 => dueN size step r i ++ [dueOne size step (rowF step r (size - 1 - i))]
def gapsU (row : List Int) : List Int := (List.range (row.length - 1)).map fun t => row.getD (t + 1) 0 - row.getD t 0
def dueOk (size step : Nat) (row : List Int) : Bool :=
  decide (dueP size step row < row.length) && decide (row.length ≤ 50) && decide (97 ≤ 97 + (size : Int) * (step : Int) - row.getD (dueP size step row) 0) && decide (97 + (size : Int) * (step : Int) - row.getD (dueP size step row) 0 ≤ 122)
    && (List.range (dueP size step row + 1)).all fun t => decide (0 ≤ (size : Int) * (step : Int) + 1 - row.getD t 0) && decide ((size : Int) * (step : Int) + 1 - row.getD t 0 < 100)
def toldOk (size step : Nat) (row : List Int) : Bool :=
  let p := dueP size step row
  decide (bisR (gapsU row) size 0 (gapsU row).length = p) && decide (bisR (gapsU row) 0 p (gapsU row).length = p) && decide (bisR (gapsU row) 6 0 p = p) && decide (bisR (row.map fun n => n - (size : Int) * ((step : Int) - 1)) 0 0 row.length = p)
theorem due_oks : ∀ size : Fin 6, ∀ left : Fin 6, left.val ≤ size.val → dueOk (size.val + 1) 3 (rowF 3 1 left.val) = true ∧ dueOk (size.val + 1) 5 (rowF 5 2 left.val) = true := by decide +kernel
theorem told_oks : ∀ size : Fin 6, toldOk (size.val + 1) 3 (rowF 3 1 0) = true ∧ toldOk (size.val + 1) 5 (rowF 5 2 0) = true := by decide +kernel
theorem ring_due : ∀ size : Fin 6, (ringN (size.val + 1) 3 ((size.val + 1) * 3)).2 = dueN (size.val + 1) 3 1 (size.val + 1) ∧ (ringN (size.val + 1) 5 ((size.val + 1) * 5)).2 = dueN (size.val + 1) 5 2 (size.val + 1) := by decide +kernel
structure DueOk (size step : Nat) (row : List Int) (p : Nat) : Prop where
  p_eq : p = dueP size step row
  lt : p < row.length
  len : row.length ≤ 50
  lo97 : 97 ≤ 97 + (size : Int) * (step : Int) - row.getD p 0
  hi122 : 97 + (size : Int) * (step : Int) - row.getD p 0 ≤ 122
  all : ∀ t, t ≤ p → 0 ≤ (size : Int) * (step : Int) + 1 - row.getD t 0 ∧ (size : Int) * (step : Int) + 1 - row.getD t 0 < 100
theorem dueOk_of {size step : Nat} {row : List Int} (h : dueOk size step row = true) : DueOk size step row (dueP size step row) := by
  unfold dueOk at h
  simp only [Bool.and_eq_true, decide_eq_true_eq, List.all_eq_true, List.mem_range] at h
  obtain ⟨⟨⟨⟨h1, h2⟩, h3⟩, h4⟩, h5⟩ := h
  exact ⟨rfl, h1, h2, h3, h4, fun t ht => h5 t (by omega)⟩
def readingsOf (step : Nat) : Nat := if step = 3 then 1 else 2
theorem due_ok' {size step left : Nat} (h1 : 1 ≤ size) (h6 : size ≤ 6) (hs : step = 3 ∨ step = 5) (hl : left < size) : dueOk size step (rowF step (readingsOf step) left) = true := by
  obtain ⟨k, rfl⟩ : ∃ k, size = k + 1 := ⟨size - 1, by omega⟩
  rcases hs with rfl | rfl
  · exact (due_oks ⟨k, by omega⟩ ⟨left, by omega⟩ (by show left ≤ k; omega)).1
  · exact (due_oks ⟨k, by omega⟩ ⟨left, by omega⟩ (by show left ≤ k; omega)).2
structure ToldOk (size step : Nat) (row : List Int) (p : Nat) : Prop where
  one : bisR (gapsU row) size 0 (gapsU row).length = p
  two : bisR (gapsU row) 0 p (gapsU row).length = p
  three : bisR (gapsU row) 6 0 p = p
  four : bisR (row.map fun n => n - (size : Int) * ((step : Int) - 1)) 0 0 row.length = p
theorem told_ok' {size step : Nat} (h1 : 1 ≤ size) (h6 : size ≤ 6) (hs : step = 3 ∨ step = 5) : ToldOk size step (rowF step (readingsOf step) 0) (dueP size step (rowF step (readingsOf step) 0)) := by
  have : toldOk size step (rowF step (readingsOf step) 0) = true := by
    obtain ⟨k, rfl⟩ : ∃ k, size = k + 1 := ⟨size - 1, by omega⟩
    rcases hs with rfl | rfl
    · exact (told_oks ⟨k, by omega⟩).1
    · exact (told_oks ⟨k, by omega⟩).2
  unfold toldOk at this
  simp only [Bool.and_eq_true, decide_eq_true_eq] at this
  obtain ⟨⟨⟨a, b⟩, c⟩, d⟩ := this
  exact ⟨a, b, c, d⟩
theorem ring_due' {size step : Nat} (h1 : 1 ≤ size) (h6 : size ≤ 6) (hs : step = 3 ∨ step = 5) : (ringN size step (size * step)).2 = dueN size step (readingsOf step) size := by
  obtain ⟨k, rfl⟩ : ∃ k, size = k + 1 := ⟨size - 1, by omega⟩
  rcases hs with rfl | rfl
  · exact (ring_due ⟨k, by omega⟩).1
  · exact (ring_due ⟨k, by omega⟩).2

section
variable {prog : Program} {w : World} {A : Around} {E : Value → Shared → Prop} {s : Shared} {h₀ : Heap} {L : Addr} {news : List (Addr × Obj)} {Q : Value → Shared → Prop}
theorem item_rows {value slice : Expr} {l : Addr} {vs : List Value} {nn : Nat} {base : List (Addr × Obj)} {n : Nat} {f : Nat → List Int} {k : Nat} {z : Int} {u : Tok} (N : News h₀ L s.heap news) (hm : (l, listOf vs.toArray nn) ∈ news) (hd : DatAll base vs ((List.range n).map fun i => dints (f i))) (hz : z = (k : Int)) (hk : k < n) (hn : n ≤ 1000)
    (h : ∀ la rv rn, vs[k]? = some (.ref la) → (la, listOf rv.toArray rn) ∈ base → IntsAre rv (f k) → Q (.ref la) s)
    (hs : subscripted slice false (.ref l) (.int z u) = operate [.ref l, .int z u] (getItem (.ref l) (.int z u)) := by with_unfolding_all rfl) (hg : ∀ r, letTemporaryGo value (.ref l) r = pure () := by intro _; with_unfolding_all rfl) :
    wpAny (model prog w) A (subscriptTail value slice (.ref l) (.int z u)) Q E s := by
  subst hz
  obtain ⟨v, hv, hdv⟩ := hd.get (k := k) (by simpa using hk)
  rw [List.getElem_map, List.getElem_range] at hdv
  unfold dints at hdv
  cases hdv with
  | list hm2 hi2 => exact kim_list (l := vs) N hm rfl rfl (by omega) (by omega) (by simpa using hv) (h _ _ _ hv hm2 (ints_dat hi2)) hs hg
end
end
section
open PySem PySem.W PyProof.Rows PySem.Calls
/-- the code table laid aside: empty, or with the one code at that place -/
def TabOk (pos : Pos) (qual : Str) (ps : Array Value) (news : List (Addr × Obj)) : Prop :=
  ps = #[] ∨ ∃ c' oc vs t, ps = #[rawInt pos.line, rawInt pos.col, .ref c'] ∧ (c', oc) ∈ news ∧ oc.data = .fields vs ∧ vs[1]? = some (.str qual t)
/-- the table behind a call: as it was, or with one new code -/
def TabNx (pos : Pos) (qual : Str) (ps ps' : Array Value) (n' news : List (Addr × Obj)) : Prop :=
  ps' = ps ∨ ∃ c' oc vs t, ps' = #[rawInt pos.line, rawInt pos.col, .ref c'] ∧ (c', oc) ∈ n' ∧ oc.data = .fields vs ∧ vs[1]? = some (.str qual t) ∧ ∀ q ∈ news, q.1 < c'
theorem TabOk.mono {pos : Pos} {qual : Str} {ps : Array Value} {news news' : List (Addr × Obj)} (h : TabOk pos qual ps news) (hs : ∀ p ∈ news, p ∈ news') : TabOk pos qual ps news' := by
  rcases h with h | ⟨c', oc, vs, t, h1, h2, h3⟩
  · exact .inl h
  · exact .inr ⟨c', oc, vs, t, h1, hs _ h2, h3⟩
section
variable {M : Model} {A : Around} {E : Value → Shared → Prop} {s : Shared} {h₀ : Heap} {L a c P : Addr} {m mg mb : Str → Option Value} {cn : Str} {cs : Scope} {ccd : Value} {cl : List (Str × Addr)} {news : List (Addr × Obj)}
  {p : Program} {loose : List Str} {mean : ExcName → Option Value} {name qual : Str} {params : Arguments} {body : Expr} {scope : Scope} {ps : Array Value} {pos : Pos} {firstLine : Nat} {clos : List (Str × Addr)}
theorem lam_both {Q : Value → Shared → Prop} (F : Fr h₀ L s.heap m) (N : News h₀ L s.heap ((P, tabObj ps) :: news)) (T : Top p loose mean mg mb h₀) (C : CodeHd h₀ c P) (hcd : ccd = .ref c) (hP : ∀ q ∈ news, q.1 ≠ P) (hps : TabOk pos qual ps news)
    (hcl : closureFor scope (envX cn cs L a ccd cl) = pure clos)
    (h : ∀ f c' oc vs t ctv h' tk add, Fr h₀ L h' m → News h₀ L h' ((f, kla_obj name qual params body scope clos ((mg "__name__").getD .none) c' ctv) :: (P, tabObj #[rawInt pos.line, rawInt pos.col, .ref c']) :: (add ++ news)) →
      (c', oc) ∈ add ++ news → oc.data = .fields vs → vs[1]? = some (.str qual t) → (∀ q ∈ (P, tabObj ps) :: (add ++ news), q.1 < f) → (∀ q ∈ add, q.1 ≠ P ∧ ∀ r ∈ news, r.1 < q.1) → (ps = #[rawInt pos.line, rawInt pos.col, .ref c'] ∨ ∀ r ∈ news, r.1 < c') → Q (.ref f) { s with heap := h', toks := tk }) :
    wpAny M A (makeFunction name qual params (.expr body) scope (envX cn cs L a ccd cl) [] [] [] pos firstLine) Q E s := by
  rcases hps with rfl | ⟨c', oc, vs, t, rfl, hm, hd, hv⟩
  · refine kla_nest (ps := #[]) (g := fun o => (P, o) :: news) F N T C hcd (UpdF.head hP) (by exact True.intro) (by rfl) hcl ?_
    intro f c' oc vs t ctv h' tk F' N' d1 d2 l1 l2
    refine h f c' oc vs t ctv h' tk [(c', oc)] F' (fun q hq => N' q ?_) (.head _) d1 d2 ?_ ?_ (.inr fun r hr => l1 r (.tail _ hr))
    · rcases List.mem_cons.mp hq with rfl | hq
      · exact .head _
      rcases List.mem_cons.mp hq with rfl | hq
      · exact .tail _ (.tail _ (.head _))
      rcases List.mem_cons.mp hq with rfl | hq
      · exact .tail _ (.head _)
      · exact .tail _ (.tail _ (.tail _ hq))
    · intro q hq
      rcases List.mem_cons.mp hq with rfl | hq
      · exact Nat.lt_trans (l1 (P, tabObj #[]) (.head _)) l2
      rcases List.mem_cons.mp hq with rfl | hq
      · exact l2
      · exact Nat.lt_trans (l1 q (.tail _ hq)) l2
    · intro q hq
      rw [List.mem_singleton.mp hq]
      exact ⟨Nat.ne_of_gt (l1 (P, tabObj #[]) (.head _)), fun r hr => l1 r (.tail _ hr)⟩
  · have hcA : codeAmong pos (#[rawInt pos.line, rawInt pos.col, Value.ref c'] : Array Value).toList = some (.ref c') := by simp [codeAmong, rawInt]
    refine kla_hit F N T C hcd (.head _) (by show True; trivial) hcA hcl ?_
    intro f ctv h' tk F' N' l1
    exact h f c' oc vs t ctv h' tk [] F' N' hm hd hv l1 (fun q hq => nomatch hq) (.inl rfl)
end
mutual
theorem datIn_cls {news news' : List (Addr × Obj)} (hs : ∀ p ∈ news, p.2.cls ≠ .none → p ∈ news') : ∀ {v : Value} {d : Dat}, DatIn news v d → DatIn news' v d
  | _, _, .none => .none
  | _, _, .bool b => .bool b
  | _, _, .int i t => .int i t
  | _, _, .str x t => .str x t
  | _, _, .bytes b t => .bytes b t
  | _, _, .tuple h r => .tuple (hs _ h (by nofun)) (datAll_cls hs r)
  | _, _, .list h r => .list (hs _ h (by nofun)) (datAll_cls hs r)
theorem datAll_cls {news news' : List (Addr × Obj)} (hs : ∀ p ∈ news, p.2.cls ≠ .none → p ∈ news') : ∀ {vs : List Value} {ds : List Dat}, DatAll news vs ds → DatAll news' vs ds
  | _, _, .nil => .nil
  | _, _, .cons h r => .cons (datIn_cls hs h) (datAll_cls hs r)
end
end
section
open PySem PySem.W PyProof.Rows
/-- a call's contract: from every caller's frame the call hands back a value and a ledger that Post tells -/
def Con (w : World) (loose : List Str) (mean : ExcName → Option Value) (mg mb : Str → Option Value) (f : Addr) (news : List (Addr × Obj)) (vs : List Value) (D : Nat) (Post : Value → List (Addr × Obj) → Prop) : Prop :=
  ∀ (dp un : Nat) (gd : Option (List Code)) (cn : Str) (cs : Scope) (a : Addr) (ccd : Value) (cl : List (Str × Addr)) (outer : List Env) (A₀ : Around) (base h₀ : Heap) (L : Addr) (m : Str → Option Value) (s : Shared) (Q E : Value → Shared → Prop),
    Below A₀ base outer h₀ → Fr h₀ L s.heap m → (Mine.heapK w.params).In h₀ → News h₀ L s.heap news → Top topProg loose mean mg mb h₀ → cs.kind = .function →
    dp + D < recursionLimit → un + 8 * D < cLine → (∀ v news' h' tk', Fr h₀ L h' m → News h₀ L h' news' → Post v news' → Q v { s with heap := h', toks := tk' }) →
      wpAny (model PySem.Challenge.rw_ux0026_01.row.prog w) (ktrTop dp un gd cn cs L a ccd cl outer) (call (.ref f) vs) Q E s
theorem Con.use {w : World} {loose : List Str} {mean : ExcName → Option Value} {mg mb : Str → Option Value} {f : Addr} {news : List (Addr × Obj)} {vs : List Value} {D : Nat} {Post : Value → List (Addr × Obj) → Prop}
    {dp un : Nat} {gd : Option (List Code)} {cn : Str} {cs : Scope} {a : Addr} {ccd : Value} {cl : List (Str × Addr)} {outer : List Env} {A₀ : Around} {base h₀ : Heap} {L : Addr} {m : Str → Option Value} {s : Shared} {Q E : Value → Shared → Prop}
    (c : Con w loose mean mg mb f news vs D Post) (B : Below A₀ base outer h₀) (F : Fr h₀ L s.heap m) (X : (Mine.heapK w.params).In h₀) (N : News h₀ L s.heap news) (T : Top topProg loose mean mg mb h₀) (hk : cs.kind = .function)
    (hd : dp + D < recursionLimit) (hu : un + 8 * D < cLine) (ret : ∀ v news' h' tk', Fr h₀ L h' m → News h₀ L h' news' → Post v news' → Q v { s with heap := h', toks := tk' }) :
    wpAny (model PySem.Challenge.rw_ux0026_01.row.prog w) (ktrTop dp un gd cn cs L a ccd cl outer) (call (.ref f) vs) Q E s := c _ _ _ _ _ _ _ _ _ _ _ _ _ _ _ _ _ B F X N T hk hd hu ret
end
section
open PySem PySem.W PyProof.Rows
local macro_rules | `(tactic| walk_at "KswEnd") => `(tactic| refine Hold.out ?_)

section
variable (w : World) (loose : List Str) (mean : ExcName → Option Value) (mg mb : Str → Option Value) (news : List (Addr × Obj))
theorem parse_ok (x : Str) (t0 : Tok) (hx : x.length ≤ 1000) (h5 : 5 ≤ x.length) (h3 : x.cps.toList.take 3 = [50, 53, 55]) :
  Con w loose mean mg mb 88 news [.str x t0] 1 (fun v n => n = news ∧ ∃ t, v = .str (tx (p257 x.cps.toList)) t) := by
  have e3 : Txt.slice x none (some 3) = tx (x.cps.toList.take 3) := slice_to (j := 3) (by omega)
  have e35 : Txt.slice x (some 3) (some 5) = tx ((x.cps.toList.drop 3).take 2) := slice_ab (i := 3) (j := 5) (by omega) (by omega)
  unfold Con
  k_fill
  intro dp un gd cn cs a ccd cl outer A₀ base h₀ L m s Q E B F X N T hk hd hu hret
  k_with_none
  w_strict (refine wpAny_call ?_; k_dflt cell_enter; repeat' ((fail_if_success (with_reducible show wpAny _ _ (exec (Stmt.While _ _ _ _) _) _ _ _)); first | (k_unfold; (try dsimp only)) | (k_end; wrow_close) | walk1 | (dsimp only; walk1) | (leave1; walk_say "STEP leave1"; try dsimp only) | fail "no step"))
  · rename (_ != _) = true => hn
    rw [e3, h3] at hn
    exact absurd hn (by decide)
  · rename (_ != _) = true => hn
    rw [e35, show (Str.ofString " \"") = tx [32, 34] from by decide, tx_bne] at hn
    refine hret _ _ _ _ (by assumption) (by assumption) ⟨rfl, _, congrArg (fun z => Value.str z _) ?_⟩
    unfold p257
    rw [if_neg (of_decide_eq_true hn)]
    decide
  · rename ((Txt.slice x (some 3) (some 5)) != _) = false => hn
    rw [e35, show (Str.ofString " \"") = tx [32, 34] from by decide, tx_bne] at hn
    have hn' := of_decide_eq_false hn
    simp only [ne_eq, Decidable.not_not] at hn'
    have hp : p257 x.cps.toList = scan (x.cps.toList.drop 5) [] := by unfold p257; rw [if_pos hn']
    rename Fr _ _ _ _ => lF
    rename News _ _ _ _ => lN
    with_unfolding_all refine' ksw_while (σ := Int × Tok × Str × Tok) (fun _ => news) (fun c => [(Str.ofString "i", Value.int c.1 c.2.1), (Str.ofString "dirname", Value.str c.2.2.1 c.2.2.2)]) (fun _ => True) [Str.ofString "c"]  (fun c => 5 ≤ c.1 ∧ c.2.2.1.length ≤ c.1.toNat ∧ c.1 ≤ (x.length : Int) ∧ scan (x.cps.toList.drop c.1.toNat) c.2.2.1.cps.toList = scan (x.cps.toList.drop 5) [])  (fun c => x.length - c.1.toNat) (5, _, "", _) lF lN trivial ?kk ?kp ?turn (hE := ?hE)
    case hE => passes_own
    case kk => kst_all
    case kp => exact ⟨by show (5 : Int) ≤ 5; omega, by show (0 : Nat) ≤ _; omega, by show (5 : Int) ≤ _; omega, rfl⟩
    case turn =>
      rintro ⟨i, ti, d, td⟩ u h tk - hI F N
      clear lF lN
      dsimp only at *
      obtain ⟨i5, hdl, hix, hsc⟩ := hI
      have hsx : x.length = x.cps.toList.length := by simp [Str.length]
      k_unmd
      k_fold
      w_strict (repeat' (first | (k_unfold; (try dsimp only)) | (k_end; wrow_close) | walk1 | (dsimp only; walk1) | (leave1; walk_say "STEP leave1"; try dsimp only) | fail "no step"))
      · rename i < _ => hlt
        rename (Txt.item x i == _) = true => hc
        rename _ ≤ i + 1 => hle
        obtain ⟨c, hc1, hc2⟩ := item_at (x := x) (i := i) (by omega) hlt
        rw [hc2, show (Str.ofString "\"") = tx [34] from by decide, tx_beq] at hc
        have hc' : c = 34 := by simpa using of_decide_eq_true hc
        subst hc'
        refine hret _ _ _ _ (by assumption) (by assumption) ⟨rfl, _, congrArg (fun z => Value.str z _) ?_⟩
        rw [hp, ← hsc, scan_last hc1 (by omega), tx_of]
      · rename i < _ => hlt
        rename (Txt.item x i == _) = true => hc
        rename ¬ _ ≤ i + 1 => hle
        rename (Txt.item x (i + 1) != _) = true => hd
        obtain ⟨c, hc1, hc2⟩ := item_at (x := x) (i := i) (by omega) hlt
        rw [hc2, show (Str.ofString "\"") = tx [34] from by decide, tx_beq] at hc
        have hc' : c = 34 := by simpa using of_decide_eq_true hc
        subst hc'
        obtain ⟨c2, hd1, hd2⟩ := item_at (x := x) (i := i + 1) (by omega) (by omega)
        rw [hd2, show (Str.ofString "\"") = tx [34] from by decide, tx_bne] at hd
        have hd' : c2 ≠ 34 := by simpa using of_decide_eq_true hd
        have ei : (i + 1).toNat = i.toNat + 1 := by omega
        rw [ei] at hd1
        refine hret _ _ _ _ (by assumption) (by assumption) ⟨rfl, _, congrArg (fun z => Value.str z _) ?_⟩
        rw [hp, ← hsc, scan_stop hc1 hd1 hd', tx_of]
      · rename i < _ => hlt
        rename (Txt.item x i == _) = true => hc
        rename ¬ _ ≤ i + 1 => hle
        rename (Txt.item x (i + 1) != _) = false => hd
        obtain ⟨c, hc1, hc2⟩ := item_at (x := x) (i := i) (by omega) hlt
        rw [hc2, show (Str.ofString "\"") = tx [34] from by decide, tx_beq] at hc
        have hc' : c = 34 := by simpa using of_decide_eq_true hc
        subst hc'
        obtain ⟨c2, hd1, hd2⟩ := item_at (x := x) (i := i + 1) (by omega) (by omega)
        rw [hd2, show (Str.ofString "\"") = tx [34] from by decide, tx_bne] at hd
        have hd' : c2 = 34 := by simpa using of_decide_eq_false hd
        subst hd'
        have ei : (i + 1).toNat = i.toNat + 1 := by omega
        rw [ei] at hd1
        refine' ksw_end (i + 1 + 1, _, d ++ Txt.item x i, _) (by assumption) (by assumption) (fun _ h9 => h9) trivial ?kk ?kr ?kp ?km
        case kk => kst_all
        case kr => (intro z h2 h3; simp only [List.forall_mem_cons, List.not_mem_nil, false_implies, implies_true, and_true, ne_eq] at h2; simp only [List.contains_cons, List.contains_nil, Bool.or_false, Bool.or_eq_false_iff, beq_eq_false_iff_ne, ne_eq] at h3; simp [kstB, h2, h3])
        case kp =>
          have e2 : (i + 1 + 1).toNat = i.toNat + 2 := by omega
          refine ⟨by show 5 ≤ i + 1 + 1; omega, ?_, by show i + 1 + 1 ≤ _; omega, ?_⟩
          · show (d ++ Txt.item x i).length ≤ (i + 1 + 1).toNat
            rw [hc2, Str.length_append, tx_len]; simp only [List.length_cons, List.length_nil]; omega
          · show scan (x.cps.toList.drop (i + 1 + 1).toNat) (d ++ Txt.item x i).cps.toList = _
            rw [e2, hc2, str_app, tx_cps, ← scan_two hc1 hd1, hsc]
        case km => show x.length - (i + 1 + 1).toNat < x.length - i.toNat; omega
      · rename i < _ => hlt
        rename (Txt.item x i == _) = false => hc
        obtain ⟨c, hc1, hc2⟩ := item_at (x := x) (i := i) (by omega) hlt
        rw [hc2, show (Str.ofString "\"") = tx [34] from by decide, tx_beq] at hc
        have hc' : c ≠ 34 := by simpa using of_decide_eq_false hc
        refine' ksw_end (i + 1, _, d ++ Txt.item x i, _) (by assumption) (by assumption) (fun _ h9 => h9) trivial ?kk ?kr ?kp ?km
        case kk => kst_all
        case kr => (intro z h2 h3; simp only [List.forall_mem_cons, List.not_mem_nil, false_implies, implies_true, and_true, ne_eq] at h2; simp only [List.contains_cons, List.contains_nil, Bool.or_false, Bool.or_eq_false_iff, beq_eq_false_iff_ne, ne_eq] at h3; simp [kstB, h2, h3])
        case kp =>
          have e2 : (i + 1).toNat = i.toNat + 1 := by omega
          refine ⟨by show 5 ≤ i + 1; omega, ?_, by show i + 1 ≤ _; omega, ?_⟩
          · show (d ++ Txt.item x i).length ≤ (i + 1).toNat
            rw [hc2, Str.length_append, tx_len]; simp only [List.length_cons, List.length_nil]; omega
          · show scan (x.cps.toList.drop (i + 1).toNat) (d ++ Txt.item x i).cps.toList = _
            rw [e2, hc2, str_app, tx_cps, ← scan_one hc1 hc', hsc]
        case km => show x.length - (i + 1).toNat < x.length - i.toNat; omega
      · rename ¬ i < _ => hlt
        refine hret _ _ _ _ (by assumption) (by assumption) ⟨rfl, _, congrArg (fun z => Value.str z _) ?_⟩
        rw [hp, ← hsc, scan_end (by omega), tx_of]
end
end
section
open PySem PySem.W PyProof.Rows
local macro_rules | `(tactic| walk_at "KswEnd") => `(tactic| refine Hold.out ?_)
local macro_rules | `(tactic| walk_at "InvEndN") => `(tactic| refine Hold.out ?_)
section
variable (w : World) (loose : List Str) (mean : ExcName → Option Value) (mg mb : Str → Option Value) (news : List (Addr × Obj))
theorem parse_one (n l : Nat) (t : List Nat) (t0 : Tok) (hn : n ≤ 200) (hl : 97 ≤ l ∧ l ≤ 122) (ht : Tail t) (htl : t.length ≤ 10) :
  Con w loose mean mg mb 88 news [.str (Str.ofString "257 \"" ++ Txt.mul (Str.ofString "\"") (n : Int) ++ tx [l] ++ tx t) t0] 1 (fun v n' => n' = news ∧ ∃ tk, v = .str (tx (told n l)) tk) := by
  rw [asked_one]
  have h := parse_ok w loose mean mg mb news (tx ([50, 53, 55, 32, 34] ++ (rep n ++ (l :: t)))) t0 (by rw [tx_len]; simp [rep_len]; omega) (by rw [tx_len]; simp) (by rw [tx_cps]; rfl)
  rw [tx_cps, told_one (by omega) ht] at h
  exact h
local macro_rules | `(tactic| walk_at "mine use 1") => `(tactic| (k_here; (with_reducible show wpAny _ _ (call (Value.ref 88) [Value.str _ _]) _ _ _); k_dflt ((refine' Con.use (parse_one _ _ _ _ _ _ _ _ _ _ ?c1 ?c2 ?c3 ?c4) ?k1 ?k2 ?k3 ?k4 ?k5 ?kK ?kd ?ku ?kr); (case k1 => k_asm); (case k2 => k_asm); (case k3 => k_asm); (case k4 => k_asm); (case k5 => k_asm); (case kK => first | exact rfl | assumption); (case kd => ktr_room); (case ku => ktr_units); (case c1 => omega); (case c2 => assumption); (case c3 => assumption); (case c4 => assumption); intro v9 n9 h9 tk9 F9 N9 P9; (obtain ⟨e9, t9, f9⟩ := P9); (replace e9 := e9.symm); (subst e9); (subst f9)); (try dsimp only); (try k_fold)))
local macro_rules | `(tactic| walk_at "call ref") => `(tactic| walk_at "mine use 1")
theorem part_ok (n : Nat) (tn : Tok) (r : Nat) (tr : Tok) (l : Nat) (tl : Tok) (t : List Nat) (tt : Tok) (hn : n ≤ 100) (hr : r ≤ 10) (hl : 97 ≤ l ∧ l ≤ 122) (ht : Tail t) (htl : t.length ≤ 10) :
  Con w loose mean mg mb 239 news [.int n tn, .int r tr, .str (tx [l]) tl, .str (tx t) tt] 2 (fun v n' => n' = news ∧ ∃ tk, v = .int (halves r n : Nat) tk) := by
  unfold Con
  k_fill
  intro dp un gd cn cs a ccd cl outer A₀ base h₀ L m s Q E B F X N T hk hd hu hret
  k_with_none
  w_strict (refine wpAny_call ?_; k_dflt cell_enter; repeat' ((fail_if_success (with_reducible show wpAny _ _ (pyIter _) _ _ _)); first | (k_unfold; (try dsimp only)) | (k_end; wrow_close) | walk1 | (dsimp only; walk1) | (leave1; walk_say "STEP leave1"; try dsimp only) | fail "no step"))
  rename Fr _ _ _ _ => lF
  rename News _ _ _ _ => lN
  rename IsRange _ _ _ _ _ _ _ _ => rgX
  with_unfolding_all refine' kst_range (σ := Int × Tok) (n := r) (fun _ => news) (fun c => [(Str.ofString "number", Value.int c.1 c.2)]) (fun _ => True) [Str.ofString "told"]  (fun pre c => c.1 = (halves pre.length n : Nat)) (n, _) (by rfl) rgX (small_one (by omega) (by omega) (by omega) (by omega)) (by first | exact rangeSize_nat _ _ | rfl | simp [Builtin.Range.rangeSize]) lF lN trivial ?kk rfl ?turn ?done
  case kk => kst_all
  case done =>
    rintro ⟨k, tk⟩ u h tk' - hI F N
    dsimp only at *
    k_unmd
    try k_fold
    w_strict (repeat' (first | (k_unfold; (try dsimp only)) | (k_end; wrow_close) | walk1 | (dsimp only; walk1) | (leave1; walk_say "STEP leave1"; try dsimp only) | fail "no step"))
    rw [rangeKs_length] at hI
    exact hret _ _ _ _ (by assumption) (by assumption) ⟨rfl, tk, by rw [hI]⟩
  case turn =>
    rintro ⟨k0, tk⟩ pre j tj u h tk' own hj hpre hoff - hI F N
    dsimp only at *
    obtain ⟨k, ekk⟩ : ∃ k, k = halves pre.length n := ⟨_, rfl⟩
    rw [← ekk] at hI
    subst hI
    have hk100 : k ≤ 100 := by rw [ekk]; exact halves_le hn (by decide) _
    have hll : (tx [l]).length = 1 := rfl
    have htold : (tx (told k l)).length ≤ 1048576 := by
      rw [tx_len]; unfold told; rw [List.length_append, rep_len]; split <;> (simp only [List.length_cons, List.length_nil]; omega)
    have htt : (tx t).length ≤ 10 := by rw [tx_len]; exact htl
    have hcnt : Txt.count (tx (told k l)) (Str.ofString "\"") = (k / 2 : Nat) := by
      rw [show Str.ofString "\"" = tx [34] from by decide, count_tx, told_count (by omega)]
    have hlast : (Txt.slice (tx (told k l)) (some (-1)) none != tx [l]) = decide (k % 2 ≠ 0) := by
      rw [slice_last, tx_cps, tx_len, tx_bne]
      exact decide_eq_decide.mpr (not_congr (told_last (by omega) k))
    k_unmd
    k_fold
    w_strict (repeat' (first | (k_unfold; (try dsimp only)) | (k_end; wrow_close) | walk1 | (dsimp only; walk1) | (leave1; walk_say "STEP leave1"; try dsimp only) | fail "no step"))
    · rename (_ != tx [l]) = true => hq
      rw [hlast] at hq
      have hq' := of_decide_eq_true hq
      refine' kst_end (Txt.count (tx (told k l)) (Str.ofString "\"") + 1, _) (by assumption) (by assumption) (fun _ h9 => List.mem_append.mpr (.inl h9)) (fun _ h9 => List.mem_append.mpr (.inr h9)) rfl trivial ?kk ?kr ?kp
      case kk => kst_all
      case kr => (intro z h1 h2 h3; simp only [List.forall_mem_cons, List.not_mem_nil, false_implies, implies_true, and_true, ne_eq] at h2; simp only [List.contains_cons, List.contains_nil, Bool.or_false, Bool.or_eq_false_iff, beq_eq_false_iff_ne, ne_eq] at h3; simp [kstB, h1, h2, h3])
      case kp =>
        show Txt.count (tx (told k l)) (Str.ofString "\"") + 1 = _
        rw [hcnt, List.length_append, show [j].length = 1 from rfl, halves, ← ekk]
        omega
    · rename (_ != tx [l]) = false => hq
      rw [hlast] at hq
      have hq' := of_decide_eq_false hq
      refine' kst_end (Txt.count (tx (told k l)) (Str.ofString "\""), _) (by assumption) (by assumption) (fun _ h9 => List.mem_append.mpr (.inl h9)) (fun _ h9 => List.mem_append.mpr (.inr h9)) rfl trivial ?kk ?kr ?kp
      case kk => kst_all
      case kr => (intro z h1 h2 h3; simp only [List.forall_mem_cons, List.not_mem_nil, false_implies, implies_true, and_true, ne_eq] at h2; simp only [List.contains_cons, List.contains_nil, Bool.or_false, Bool.or_eq_false_iff, beq_eq_false_iff_ne, ne_eq] at h3; simp [kstB, h1, h2, h3])
      case kp =>
        show Txt.count (tx (told k l)) (Str.ofString "\"") = _
        rw [hcnt, List.length_append, show [j].length = 1 from rfl, halves, ← ekk]
        omega
theorem part_okI (n : Int) (tn : Tok) (r : Nat) (tr : Tok) (l : Nat) (tl : Tok) (t : List Nat) (tt : Tok) (h0 : 0 ≤ n) (hn : n ≤ 100) (hr : r ≤ 10) (hl : 97 ≤ l ∧ l ≤ 122) (ht : Tail t) (htl : t.length ≤ 10) :
  Con w loose mean mg mb 239 news [.int n tn, .int r tr, .str (tx [l]) tl, .str (tx t) tt] 2 (fun v n' => n' = news ∧ ∃ tk, v = .int (halves r n.toNat : Nat) tk) := by
  have h := part_ok w loose mean mg mb news n.toNat tn r tr l tl t tt (by omega) hr hl ht htl
  rw [Int.toNat_of_nonneg h0] at h
  exact h
end
end
local macro_rules | `(tactic| k_mem) => `(tactic| first | with_reducible assumption | with_reducible exact List.mem_cons_of_mem _ (by assumption) | with_reducible exact List.mem_cons_of_mem _ (List.mem_cons_of_mem _ (by assumption)) | with_reducible exact List.mem_cons_of_mem _ (List.mem_cons_of_mem _ (List.mem_cons_of_mem _ (by assumption))) | with_reducible exact List.mem_cons_of_mem _ (List.mem_cons_of_mem _ (List.mem_cons_of_mem _ (List.mem_cons_of_mem _ (by assumption)))) | with_reducible exact List.mem_cons_of_mem _ (List.mem_cons_of_mem _ (List.mem_cons_of_mem _ (List.mem_cons_of_mem _ (List.mem_cons_of_mem _ (by assumption))))) | with_reducible exact List.mem_cons_of_mem _ (List.mem_cons_of_mem _ (List.mem_cons_of_mem _ (List.mem_cons_of_mem _ (List.mem_cons_of_mem _ (List.mem_cons_of_mem _ (by assumption)))))) | with_reducible exact List.mem_cons_of_mem _ (List.mem_cons_of_mem _ (List.mem_cons_of_mem _ (List.mem_cons_of_mem _ (List.mem_cons_of_mem _ (List.mem_cons_of_mem _ (List.mem_cons_of_mem _ (by assumption))))))) | with_reducible exact List.mem_cons_of_mem _ (List.mem_cons_of_mem _ (List.mem_cons_of_mem _ (List.mem_cons_of_mem _ (List.mem_cons_of_mem _ (List.mem_cons_of_mem _ (List.mem_cons_of_mem _ (List.mem_cons_of_mem _ (by assumption)))))))) | with_reducible exact List.mem_cons_of_mem _ (List.mem_cons_of_mem _ (List.mem_cons_of_mem _ (List.mem_cons_of_mem _ (List.mem_cons_of_mem _ (List.mem_cons_of_mem _ (List.mem_cons_of_mem _ (List.mem_cons_of_mem _ (List.mem_cons_of_mem _ (by assumption))))))))) | with_reducible exact List.mem_cons_of_mem _ (List.mem_cons_of_mem _ (List.mem_cons_of_mem _ (List.mem_cons_of_mem _ (List.mem_cons_of_mem _ (List.mem_cons_of_mem _ (List.mem_cons_of_mem _ (List.mem_cons_of_mem _ (List.mem_cons_of_mem _ (List.mem_cons_of_mem _ (by assumption)))))))))) | with_reducible exact List.mem_cons_of_mem _ (List.mem_cons_of_mem _ (List.mem_cons_of_mem _ (List.mem_cons_of_mem _ (List.mem_cons_of_mem _ (List.mem_cons_of_mem _ (List.mem_cons_of_mem _ (List.mem_cons_of_mem _ (List.mem_cons_of_mem _ (List.mem_cons_of_mem _ (List.mem_cons_of_mem _ (by assumption))))))))))))
local macro_rules | `(tactic| walk_at "KswEnd") => `(tactic| refine Hold.out ?_)
local macro_rules | `(tactic| walk_at "InvEndN") => `(tactic| refine Hold.out ?_)
local macro_rules | `(tactic| walk_at "InvEndG") => `(tactic| refine Hold.out ?_)
local macro_rules | `(tactic| walk_at "call builtin:len") => `(tactic| (k_here; (with_reducible show wpAny _ _ (call (Value.builtin _) [Value.ref _]) _ _ _); k_dflt (refine' len_I ?k1 ?k2 ?k3 ?k4 ?kr; (case k1 => k_asm); (case k2 => k_mem); (case k3 => assumption); (case k4 => first | assumption | omega)); (try dsimp only); (try k_fold)))
local macro_rules | `(tactic| walk_at "mine item") => `(tactic| (k_here; (with_reducible show wpAny _ _ (subscriptTail _ _ (Value.ref _) (Value.int _ _)) _ _ _); k_dflt ((with_unfolding_all refine' item_I ?k1 ?k2 ?k3 ?k4 ?k5 ?k6 ?kr); (case k1 => k_asm); (case k2 => k_mem); (case k3 => assumption); (case k4 => first | assumption | omega); (case k5 => omega); (case k6 => omega); intro t9); (try dsimp only); (try k_fold)))
local macro_rules | `(tactic| walk_at "subscriptTail Name") => `(tactic| walk_at "mine item")
local macro_rules | `(tactic| walk_at "exec For Name Name cons nil") => `(tactic| (k_here; (rename Fr _ _ _ _ => lF'); (with_unfolding_all refine' For_invVF lF' ?k1 ?k2 ?_; (case k1 => exact rfl); (case k2 => exact rfl); k_whole)))
local macro_rules | `(tactic| walk_at "exec For Tuple") => `(tactic| (k_here; (rename Fr _ _ _ _ => lF'); (with_unfolding_all refine' For_turns lF' ?_); k_whole))
local macro_rules | `(tactic| walk_at "PostJ") => `(tactic| (dsimp only [PostJ]))
local macro_rules | `(tactic| walk_at "EndJ") => `(tactic| refine Hold.out ?_)
local macro_rules | `(tactic| walk_at "delItem ref str") => `(tactic| (k_here; (with_reducible show wpAny _ _ (delItem (Value.ref _) _) _ _ _); k_dflt (refine' delItem_K ?F ?X ?I ?hQ ?hS ?hF ?_; (case F => k_asm); (case X => k_asm); (case I => k_inst); (case hS => k_is); (case hF => k_is); (case hQ => k_is); k_whole)))
local macro_rules | `(tactic| walk_at "callWith ref") => `(tactic| (k_here; k_dflt (refine' callWith_K ?k1 ?k2 ?_; (case k1 => k_asm); (case k2 => k_is); k_whole)))

section
open PySem PySem.W PyProof.Rows


theorem fdiv2 {a b : Int} (ha : 0 ≤ a) (hb : 0 ≤ b) : ((a + b).fdiv 2).toNat = (a.toNat + b.toNat) / 2 := by
  rw [Int.fdiv_eq_ediv_of_nonneg _ (by decide)]; omega
section
variable (w : World) (loose : List Str) (mean : ExcName → Option Value) (mg mb : Str → Option Value) (news : List (Addr × Obj))
theorem bis_ok2 (l : Addr) (vs : List Value) (ns : List Int) (nn : Nat) (x : Int) (tx : Tok)  (hm : (l, listOf vs.toArray nn) ∈ news) (hi : IntsAre vs ns) (hl : ns.length ≤ 1000)  :
  Con w loose mean mg mb 56 news [.ref l, .int x tx] 1 (fun v n' => n' = news ∧ ∃ tk, v = .int (bisR ns x 0 ns.length : Nat) tk) := by
  unfold Con
  k_fill
  intro dp un gd cn cs a ccd cl outer A₀ base h₀ L m s Q E B F X N T hk hd hu hret
  k_with_none
  w_strict (refine wpAny_call ?_; k_dflt (refine' code_def ?k1 ?k2 ?k3 ?k4 ?k5 ?kA ?kF ?kK ?k6 ?k7 ?k8 ?k9 ?kB ?_ ?c2 ?c3 ?c4 ?c5; (case kA => exact rfl); (case kF => exact rfl); (case kK => assumption); (case k1 => k_asm); (case k2 => k_asm); (case k3 => k_asm); (case k4 => k_asm); (case k5 => k_asm); (case k6 => k_is); (case k7 => k_is); (case k8 => ktr_room); (case k9 => (refine' kp_binds ?kx ?ke; (case kx => k_in); (case ke => exact fun _ => rfl))); (case c5 => decide); (case kB => exact locs rfl); (case c2 => exact rfl); (case c3 => exact rfl); (case c4 => exact rfl); k_whole; intro g' L' h' FG' F' N' B' X' T'; (try dsimp only); (try k_lift B'); (try k_fold)); repeat' ((fail_if_success (with_reducible show wpAny _ _ (exec (Stmt.While _ _ _ _) _) _ _ _)); first | (k_unfold; (try dsimp only)) | (k_end; wrow_close) | walk1 | (dsimp only; walk1) | (leave1; walk_say "STEP leave1"; try dsimp only) | fail "no step"))
  rename Fr _ _ _ _ => lF
  rename News _ _ _ _ => lN
  with_unfolding_all refine' ksw_while (σ := Int × Tok × Int × Tok) (fun _ => news) (fun c => [(Str.ofString "lo", Value.int c.1 c.2.1), (Str.ofString "hi", Value.int c.2.2.1 c.2.2.2)]) (fun _ => True) [Str.ofString "mid"]  (fun c => 0 ≤ c.1 ∧ 0 ≤ c.2.2.1 ∧ c.2.2.1 ≤ ns.length ∧ bisR ns x c.1.toNat c.2.2.1.toNat = bisR ns x 0 ns.length)  (fun c => c.2.2.1.toNat - c.1.toNat) (0, _, ns.length, _) ?cF ?cN trivial ?kk ?kp ?turn (hE := ?hE)
  case cF => exact lF
  case cN => exact lN
  case hE => passes_own
  case kk => kst_all
  case kp => (refine ⟨?_, ?_, ?_, rfl⟩ <;> (dsimp only; omega))
  case turn =>
    rintro ⟨lo, ti, hi', td⟩ u h tk - hI F N
    clear lF lN
    dsimp only at *
    obtain ⟨h0, h1, h2, h3⟩ := hI
    have hmid := fdiv2 h0 h1
    k_unmd
    k_fold
    w_strict (repeat' (first | (k_unfold; (try dsimp only)) | (k_end; wrow_close) | walk1 | (dsimp only; walk1) | (leave1; walk_say "STEP leave1"; try dsimp only) | fail "no step"))
    · rename lo < hi' => hlt
      rename x < _ => hx
      rw [hmid] at hx
      refine' ksw_end (lo, _, (lo + hi').fdiv 2, _) (by assumption) (by assumption) (fun _ h9 => h9) trivial ?kk ?kr ?kp ?km
      case kk => kst_all
      case kr => (intro z h2 h3; simp only [List.forall_mem_cons, List.not_mem_nil, false_implies, implies_true, and_true, ne_eq] at h2; simp only [List.contains_cons, List.contains_nil, Bool.or_false, Bool.or_eq_false_iff, beq_eq_false_iff_ne, ne_eq] at h3; simp [kstB, h2, h3])
      case kp =>
        refine ⟨h0, ?_, ?_, ?_⟩
        · show 0 ≤ (lo + hi').fdiv 2; rw [Int.fdiv_eq_ediv_of_nonneg _ (by decide)]; omega
        · show (lo + hi').fdiv 2 ≤ _; rw [Int.fdiv_eq_ediv_of_nonneg _ (by decide)]; omega
        · show bisR ns x lo.toNat ((lo + hi').fdiv 2).toNat = _
          rw [hmid, ← bisR_lt ns x (by omega) hx, h3]
      case km => show ((lo + hi').fdiv 2).toNat - lo.toNat < hi'.toNat - lo.toNat; rw [hmid]; omega
    · rename lo < hi' => hlt
      rename ¬ x < _ => hx
      rw [hmid] at hx
      have hm1 : ((lo + hi').fdiv 2 + 1).toNat = (lo.toNat + hi'.toNat) / 2 + 1 := by rw [Int.fdiv_eq_ediv_of_nonneg _ (by decide)]; omega
      refine' ksw_end ((lo + hi').fdiv 2 + 1, _, hi', _) (by assumption) (by assumption) (fun _ h9 => h9) trivial ?kk ?kr ?kp ?km
      case kk => kst_all
      case kr => (intro z h2 h3; simp only [List.forall_mem_cons, List.not_mem_nil, false_implies, implies_true, and_true, ne_eq] at h2; simp only [List.contains_cons, List.contains_nil, Bool.or_false, Bool.or_eq_false_iff, beq_eq_false_iff_ne, ne_eq] at h3; simp [kstB, h2, h3])
      case kp =>
        refine ⟨?_, h1, h2, ?_⟩
        · show 0 ≤ (lo + hi').fdiv 2 + 1; rw [Int.fdiv_eq_ediv_of_nonneg _ (by decide)]; omega
        · show bisR ns x ((lo + hi').fdiv 2 + 1).toNat hi'.toNat = _
          rw [hm1, ← bisR_ge ns x (by omega) hx, h3]
      case km => show hi'.toNat - ((lo + hi').fdiv 2 + 1).toNat < hi'.toNat - lo.toNat; rw [hm1]; omega
    · rename ¬ lo < hi' => hlt
      refine hret _ _ _ _ (by assumption) (by assumption) ⟨rfl, ti, ?_⟩
      rw [← h3, bisR_end ns x (by omega), Int.toNat_of_nonneg h0]
theorem bis_ok3 (l : Addr) (vs : List Value) (ns : List Int) (nn : Nat) (x : Int) (tx : Tok) (lo0 : Nat) (tlo : Tok) (hm : (l, listOf vs.toArray nn) ∈ news) (hi : IntsAre vs ns) (hl : ns.length ≤ 1000)  :
  Con w loose mean mg mb 56 news [.ref l, .int x tx, .int lo0 tlo] 1 (fun v n' => n' = news ∧ ∃ tk, v = .int (bisR ns x lo0 ns.length : Nat) tk) := by
  unfold Con
  k_fill
  intro dp un gd cn cs a ccd cl outer A₀ base h₀ L m s Q E B F X N T hk hd hu hret
  k_with_none
  w_strict (refine wpAny_call ?_; k_dflt (refine' code_def ?k1 ?k2 ?k3 ?k4 ?k5 ?kA ?kF ?kK ?k6 ?k7 ?k8 ?k9 ?kB ?_ ?c2 ?c3 ?c4 ?c5; (case kA => exact rfl); (case kF => exact rfl); (case kK => assumption); (case k1 => k_asm); (case k2 => k_asm); (case k3 => k_asm); (case k4 => k_asm); (case k5 => k_asm); (case k6 => k_is); (case k7 => k_is); (case k8 => ktr_room); (case k9 => (refine' kp_binds ?kx ?ke; (case kx => k_in); (case ke => exact fun _ => rfl))); (case c5 => decide); (case kB => exact locs rfl); (case c2 => exact rfl); (case c3 => exact rfl); (case c4 => exact rfl); k_whole; intro g' L' h' FG' F' N' B' X' T'; (try dsimp only); (try k_lift B'); (try k_fold)); repeat' ((fail_if_success (with_reducible show wpAny _ _ (exec (Stmt.While _ _ _ _) _) _ _ _)); first | (k_unfold; (try dsimp only)) | (k_end; wrow_close) | walk1 | (dsimp only; walk1) | (leave1; walk_say "STEP leave1"; try dsimp only) | fail "no step"))
  · exfalso; omega
  rename Fr _ _ _ _ => lF
  rename News _ _ _ _ => lN
  with_unfolding_all refine' ksw_while (σ := Int × Tok × Int × Tok) (fun _ => news) (fun c => [(Str.ofString "lo", Value.int c.1 c.2.1), (Str.ofString "hi", Value.int c.2.2.1 c.2.2.2)]) (fun _ => True) [Str.ofString "mid"]  (fun c => 0 ≤ c.1 ∧ 0 ≤ c.2.2.1 ∧ c.2.2.1 ≤ ns.length ∧ bisR ns x c.1.toNat c.2.2.1.toNat = bisR ns x lo0 ns.length)  (fun c => c.2.2.1.toNat - c.1.toNat) (lo0, _, ns.length, _) ?cF ?cN trivial ?kk ?kp ?turn (hE := ?hE)
  case cF => exact lF
  case cN => exact lN
  case hE => passes_own
  case kk => kst_all
  case kp => (refine ⟨?_, ?_, ?_, rfl⟩ <;> (dsimp only; omega))
  case turn =>
    rintro ⟨lo, ti, hi', td⟩ u h tk - hI F N
    clear lF lN
    dsimp only at *
    obtain ⟨h0, h1, h2, h3⟩ := hI
    have hmid := fdiv2 h0 h1
    k_unmd
    k_fold
    w_strict (repeat' (first | (k_unfold; (try dsimp only)) | (k_end; wrow_close) | walk1 | (dsimp only; walk1) | (leave1; walk_say "STEP leave1"; try dsimp only) | fail "no step"))
    · rename lo < hi' => hlt
      rename x < _ => hx
      rw [hmid] at hx
      refine' ksw_end (lo, _, (lo + hi').fdiv 2, _) (by assumption) (by assumption) (fun _ h9 => h9) trivial ?kk ?kr ?kp ?km
      case kk => kst_all
      case kr => (intro z h2 h3; simp only [List.forall_mem_cons, List.not_mem_nil, false_implies, implies_true, and_true, ne_eq] at h2; simp only [List.contains_cons, List.contains_nil, Bool.or_false, Bool.or_eq_false_iff, beq_eq_false_iff_ne, ne_eq] at h3; simp [kstB, h2, h3])
      case kp =>
        refine ⟨h0, ?_, ?_, ?_⟩
        · show 0 ≤ (lo + hi').fdiv 2; rw [Int.fdiv_eq_ediv_of_nonneg _ (by decide)]; omega
        · show (lo + hi').fdiv 2 ≤ _; rw [Int.fdiv_eq_ediv_of_nonneg _ (by decide)]; omega
        · show bisR ns x lo.toNat ((lo + hi').fdiv 2).toNat = _
          rw [hmid, ← bisR_lt ns x (by omega) hx, h3]
      case km => show ((lo + hi').fdiv 2).toNat - lo.toNat < hi'.toNat - lo.toNat; rw [hmid]; omega
    · rename lo < hi' => hlt
      rename ¬ x < _ => hx
      rw [hmid] at hx
      have hm1 : ((lo + hi').fdiv 2 + 1).toNat = (lo.toNat + hi'.toNat) / 2 + 1 := by rw [Int.fdiv_eq_ediv_of_nonneg _ (by decide)]; omega
      refine' ksw_end ((lo + hi').fdiv 2 + 1, _, hi', _) (by assumption) (by assumption) (fun _ h9 => h9) trivial ?kk ?kr ?kp ?km
      case kk => kst_all
      case kr => (intro z h2 h3; simp only [List.forall_mem_cons, List.not_mem_nil, false_implies, implies_true, and_true, ne_eq] at h2; simp only [List.contains_cons, List.contains_nil, Bool.or_false, Bool.or_eq_false_iff, beq_eq_false_iff_ne, ne_eq] at h3; simp [kstB, h2, h3])
      case kp =>
        refine ⟨?_, h1, h2, ?_⟩
        · show 0 ≤ (lo + hi').fdiv 2 + 1; rw [Int.fdiv_eq_ediv_of_nonneg _ (by decide)]; omega
        · show bisR ns x ((lo + hi').fdiv 2 + 1).toNat hi'.toNat = _
          rw [hm1, ← bisR_ge ns x (by omega) hx, h3]
      case km => show hi'.toNat - ((lo + hi').fdiv 2 + 1).toNat < hi'.toNat - lo.toNat; rw [hm1]; omega
    · rename ¬ lo < hi' => hlt
      refine hret _ _ _ _ (by assumption) (by assumption) ⟨rfl, ti, ?_⟩
      rw [← h3, bisR_end ns x (by omega), Int.toNat_of_nonneg h0]
theorem bis_ok4n (l : Addr) (vs : List Value) (ns : List Int) (nn : Nat) (x : Int) (tx : Tok) (tlo : Tok) (hm : (l, listOf vs.toArray nn) ∈ news) (hi : IntsAre vs ns) (hl : ns.length ≤ 1000)  :
  Con w loose mean mg mb 56 news [.ref l, .int x tx, .int 0 tlo, .none] 1 (fun v n' => n' = news ∧ ∃ tk, v = .int (bisR ns x 0 ns.length : Nat) tk) := by
  unfold Con
  k_fill
  intro dp un gd cn cs a ccd cl outer A₀ base h₀ L m s Q E B F X N T hk hd hu hret
  k_with_none
  w_strict (refine wpAny_call ?_; k_dflt (refine' code_def ?k1 ?k2 ?k3 ?k4 ?k5 ?kA ?kF ?kK ?k6 ?k7 ?k8 ?k9 ?kB ?_ ?c2 ?c3 ?c4 ?c5; (case kA => exact rfl); (case kF => exact rfl); (case kK => assumption); (case k1 => k_asm); (case k2 => k_asm); (case k3 => k_asm); (case k4 => k_asm); (case k5 => k_asm); (case k6 => k_is); (case k7 => k_is); (case k8 => ktr_room); (case k9 => (refine' kp_binds ?kx ?ke; (case kx => k_in); (case ke => exact fun _ => rfl))); (case c5 => decide); (case kB => exact locs rfl); (case c2 => exact rfl); (case c3 => exact rfl); (case c4 => exact rfl); k_whole; intro g' L' h' FG' F' N' B' X' T'; (try dsimp only); (try k_lift B'); (try k_fold)); repeat' ((fail_if_success (with_reducible show wpAny _ _ (exec (Stmt.While _ _ _ _) _) _ _ _)); first | (k_unfold; (try dsimp only)) | (k_end; wrow_close) | walk1 | (dsimp only; walk1) | (leave1; walk_say "STEP leave1"; try dsimp only) | fail "no step"))
  rename Fr _ _ _ _ => lF
  rename News _ _ _ _ => lN
  with_unfolding_all refine' ksw_while (σ := Int × Tok × Int × Tok) (fun _ => news) (fun c => [(Str.ofString "lo", Value.int c.1 c.2.1), (Str.ofString "hi", Value.int c.2.2.1 c.2.2.2)]) (fun _ => True) [Str.ofString "mid"]  (fun c => 0 ≤ c.1 ∧ 0 ≤ c.2.2.1 ∧ c.2.2.1 ≤ ns.length ∧ bisR ns x c.1.toNat c.2.2.1.toNat = bisR ns x 0 ns.length)  (fun c => c.2.2.1.toNat - c.1.toNat) (0, _, ns.length, _) ?cF ?cN trivial ?kk ?kp ?turn (hE := ?hE)
  case cF => exact lF
  case cN => exact lN
  case hE => passes_own
  case kk => kst_all
  case kp => (refine ⟨?_, ?_, ?_, rfl⟩ <;> (dsimp only; omega))
  case turn =>
    rintro ⟨lo, ti, hi', td⟩ u h tk - hI F N
    clear lF lN
    dsimp only at *
    obtain ⟨h0, h1, h2, h3⟩ := hI
    have hmid := fdiv2 h0 h1
    k_unmd
    k_fold
    w_strict (repeat' (first | (k_unfold; (try dsimp only)) | (k_end; wrow_close) | walk1 | (dsimp only; walk1) | (leave1; walk_say "STEP leave1"; try dsimp only) | fail "no step"))
    · rename lo < hi' => hlt
      rename x < _ => hx
      rw [hmid] at hx
      refine' ksw_end (lo, _, (lo + hi').fdiv 2, _) (by assumption) (by assumption) (fun _ h9 => h9) trivial ?kk ?kr ?kp ?km
      case kk => kst_all
      case kr => (intro z h2 h3; simp only [List.forall_mem_cons, List.not_mem_nil, false_implies, implies_true, and_true, ne_eq] at h2; simp only [List.contains_cons, List.contains_nil, Bool.or_false, Bool.or_eq_false_iff, beq_eq_false_iff_ne, ne_eq] at h3; simp [kstB, h2, h3])
      case kp =>
        refine ⟨h0, ?_, ?_, ?_⟩
        · show 0 ≤ (lo + hi').fdiv 2; rw [Int.fdiv_eq_ediv_of_nonneg _ (by decide)]; omega
        · show (lo + hi').fdiv 2 ≤ _; rw [Int.fdiv_eq_ediv_of_nonneg _ (by decide)]; omega
        · show bisR ns x lo.toNat ((lo + hi').fdiv 2).toNat = _
          rw [hmid, ← bisR_lt ns x (by omega) hx, h3]
      case km => show ((lo + hi').fdiv 2).toNat - lo.toNat < hi'.toNat - lo.toNat; rw [hmid]; omega
    · rename lo < hi' => hlt
      rename ¬ x < _ => hx
      rw [hmid] at hx
      have hm1 : ((lo + hi').fdiv 2 + 1).toNat = (lo.toNat + hi'.toNat) / 2 + 1 := by rw [Int.fdiv_eq_ediv_of_nonneg _ (by decide)]; omega
      refine' ksw_end ((lo + hi').fdiv 2 + 1, _, hi', _) (by assumption) (by assumption) (fun _ h9 => h9) trivial ?kk ?kr ?kp ?km
      case kk => kst_all
      case kr => (intro z h2 h3; simp only [List.forall_mem_cons, List.not_mem_nil, false_implies, implies_true, and_true, ne_eq] at h2; simp only [List.contains_cons, List.contains_nil, Bool.or_false, Bool.or_eq_false_iff, beq_eq_false_iff_ne, ne_eq] at h3; simp [kstB, h2, h3])
      case kp =>
        refine ⟨?_, h1, h2, ?_⟩
        · show 0 ≤ (lo + hi').fdiv 2 + 1; rw [Int.fdiv_eq_ediv_of_nonneg _ (by decide)]; omega
        · show bisR ns x ((lo + hi').fdiv 2 + 1).toNat hi'.toNat = _
          rw [hm1, ← bisR_ge ns x (by omega) hx, h3]
      case km => show hi'.toNat - ((lo + hi').fdiv 2 + 1).toNat < hi'.toNat - lo.toNat; rw [hm1]; omega
    · rename ¬ lo < hi' => hlt
      refine hret _ _ _ _ (by assumption) (by assumption) ⟨rfl, ti, ?_⟩
      rw [← h3, bisR_end ns x (by omega), Int.toNat_of_nonneg h0]
theorem bis_ok4 (l : Addr) (vs : List Value) (ns : List Int) (nn : Nat) (x : Int) (tx : Tok) (lo0 : Nat) (tlo : Tok) (hi0 : Nat) (thi : Tok) (hm : (l, listOf vs.toArray nn) ∈ news) (hi : IntsAre vs ns) (hl : ns.length ≤ 1000) (hh : hi0 ≤ ns.length) :
  Con w loose mean mg mb 56 news [.ref l, .int x tx, .int lo0 tlo, .int hi0 thi] 1 (fun v n' => n' = news ∧ ∃ tk, v = .int (bisR ns x lo0 hi0 : Nat) tk) := by
  unfold Con
  k_fill
  intro dp un gd cn cs a ccd cl outer A₀ base h₀ L m s Q E B F X N T hk hd hu hret
  k_with_none
  w_strict (refine wpAny_call ?_; k_dflt (refine' code_def ?k1 ?k2 ?k3 ?k4 ?k5 ?kA ?kF ?kK ?k6 ?k7 ?k8 ?k9 ?kB ?_ ?c2 ?c3 ?c4 ?c5; (case kA => exact rfl); (case kF => exact rfl); (case kK => assumption); (case k1 => k_asm); (case k2 => k_asm); (case k3 => k_asm); (case k4 => k_asm); (case k5 => k_asm); (case k6 => k_is); (case k7 => k_is); (case k8 => ktr_room); (case k9 => (refine' kp_binds ?kx ?ke; (case kx => k_in); (case ke => exact fun _ => rfl))); (case c5 => decide); (case kB => exact locs rfl); (case c2 => exact rfl); (case c3 => exact rfl); (case c4 => exact rfl); k_whole; intro g' L' h' FG' F' N' B' X' T'; (try dsimp only); (try k_lift B'); (try k_fold)); repeat' ((fail_if_success (with_reducible show wpAny _ _ (exec (Stmt.While _ _ _ _) _) _ _ _)); first | (k_unfold; (try dsimp only)) | (k_end; wrow_close) | walk1 | (dsimp only; walk1) | (leave1; walk_say "STEP leave1"; try dsimp only) | fail "no step"))
  · exfalso; omega
  rename Fr _ _ _ _ => lF
  rename News _ _ _ _ => lN
  with_unfolding_all refine' ksw_while (σ := Int × Tok × Int × Tok) (fun _ => news) (fun c => [(Str.ofString "lo", Value.int c.1 c.2.1), (Str.ofString "hi", Value.int c.2.2.1 c.2.2.2)]) (fun _ => True) [Str.ofString "mid"]  (fun c => 0 ≤ c.1 ∧ 0 ≤ c.2.2.1 ∧ c.2.2.1 ≤ ns.length ∧ bisR ns x c.1.toNat c.2.2.1.toNat = bisR ns x lo0 hi0)  (fun c => c.2.2.1.toNat - c.1.toNat) (lo0, _, hi0, _) ?cF ?cN trivial ?kk ?kp ?turn (hE := ?hE)
  case cF => exact lF
  case cN => exact lN
  case hE => passes_own
  case kk => kst_all
  case kp => (refine ⟨?_, ?_, ?_, rfl⟩ <;> (dsimp only; omega))
  case turn =>
    rintro ⟨lo, ti, hi', td⟩ u h tk - hI F N
    clear lF lN
    dsimp only at *
    obtain ⟨h0, h1, h2, h3⟩ := hI
    have hmid := fdiv2 h0 h1
    k_unmd
    k_fold
    w_strict (repeat' (first | (k_unfold; (try dsimp only)) | (k_end; wrow_close) | walk1 | (dsimp only; walk1) | (leave1; walk_say "STEP leave1"; try dsimp only) | fail "no step"))
    · rename lo < hi' => hlt
      rename x < _ => hx
      rw [hmid] at hx
      refine' ksw_end (lo, _, (lo + hi').fdiv 2, _) (by assumption) (by assumption) (fun _ h9 => h9) trivial ?kk ?kr ?kp ?km
      case kk => kst_all
      case kr => (intro z h2 h3; simp only [List.forall_mem_cons, List.not_mem_nil, false_implies, implies_true, and_true, ne_eq] at h2; simp only [List.contains_cons, List.contains_nil, Bool.or_false, Bool.or_eq_false_iff, beq_eq_false_iff_ne, ne_eq] at h3; simp [kstB, h2, h3])
      case kp =>
        refine ⟨h0, ?_, ?_, ?_⟩
        · show 0 ≤ (lo + hi').fdiv 2; rw [Int.fdiv_eq_ediv_of_nonneg _ (by decide)]; omega
        · show (lo + hi').fdiv 2 ≤ _; rw [Int.fdiv_eq_ediv_of_nonneg _ (by decide)]; omega
        · show bisR ns x lo.toNat ((lo + hi').fdiv 2).toNat = _
          rw [hmid, ← bisR_lt ns x (by omega) hx, h3]
      case km => show ((lo + hi').fdiv 2).toNat - lo.toNat < hi'.toNat - lo.toNat; rw [hmid]; omega
    · rename lo < hi' => hlt
      rename ¬ x < _ => hx
      rw [hmid] at hx
      have hm1 : ((lo + hi').fdiv 2 + 1).toNat = (lo.toNat + hi'.toNat) / 2 + 1 := by rw [Int.fdiv_eq_ediv_of_nonneg _ (by decide)]; omega
      refine' ksw_end ((lo + hi').fdiv 2 + 1, _, hi', _) (by assumption) (by assumption) (fun _ h9 => h9) trivial ?kk ?kr ?kp ?km
      case kk => kst_all
      case kr => (intro z h2 h3; simp only [List.forall_mem_cons, List.not_mem_nil, false_implies, implies_true, and_true, ne_eq] at h2; simp only [List.contains_cons, List.contains_nil, Bool.or_false, Bool.or_eq_false_iff, beq_eq_false_iff_ne, ne_eq] at h3; simp [kstB, h2, h3])
      case kp =>
        refine ⟨?_, h1, h2, ?_⟩
        · show 0 ≤ (lo + hi').fdiv 2 + 1; rw [Int.fdiv_eq_ediv_of_nonneg _ (by decide)]; omega
        · show bisR ns x ((lo + hi').fdiv 2 + 1).toNat hi'.toNat = _
          rw [hm1, ← bisR_ge ns x (by omega) hx, h3]
      case km => show hi'.toNat - ((lo + hi').fdiv 2 + 1).toNat < hi'.toNat - lo.toNat; rw [hm1]; omega
    · rename ¬ lo < hi' => hlt
      refine hret _ _ _ _ (by assumption) (by assumption) ⟨rfl, ti, ?_⟩
      rw [← h3, bisR_end ns x (by omega), Int.toNat_of_nonneg h0]
end
end
section
open PySem PySem.W PyProof.Rows


local macro_rules | `(tactic| walk_at "mine use 1") => `(tactic| (k_here; (with_reducible show wpAny _ _ (call (Value.ref 56) [Value.ref _, Value.int _ _, Value.int _ _, Value.none]) _ _ _); k_dflt ((refine' Con.use (bis_ok4n _ _ _ _ _ _ _ _ _ _ _ _ _ ?c1 ?c2 ?c3) ?k1 ?k2 ?k3 ?k4 ?k5 ?kK ?kd ?ku ?kr); (case k1 => k_asm); (case k2 => k_asm); (case k3 => k_asm); (case k4 => k_asm); (case k5 => k_asm); (case kK => first | exact rfl | assumption); (case kd => ktr_room); (case ku => ktr_units); (case c1 => k_mem); (case c2 => assumption); (case c3 => assumption); intro v9 n9 h9 tk9 F9 N9 P9; (obtain ⟨e9, t9, f9⟩ := P9); (replace e9 := e9.symm); (subst e9); (subst f9)); (try dsimp only); (try k_fold)))
local macro_rules | `(tactic| walk_at "call ref") => `(tactic| walk_at "mine use 1")
local macro_rules | `(tactic| k_all) => `(tactic| assumption)
local macro_rules | `(tactic| walk_at "call builtin:list.insert") => `(tactic| (k_here; (with_reducible show wpAny _ _ (call (Value.builtin _) [Value.ref _, Value.int _ _, _]) _ _ _); k_dflt (refine' kl_insert ?F ?N ?f rfl ?U ?z ?_; (case F => k_asm); (case N => k_asm); (case U => k_upd); (case f => with_reducible assumption); (case z => with_reducible assumption)); intro h9 F9 N9; (try dsimp only); (try k_fold)))
section
variable (w : World) (loose : List Str) (mean : ExcName → Option Value) (mg mb : Str → Option Value) (news : List (Addr × Obj))
theorem ins_ok (l : Addr) (vs : List Value) (ns : List Int) (nn : Nat) (x : Int) (tx : Tok) (hi : IntsAre vs ns) (hl : ns.length ≤ 999) (hoff : ∀ p ∈ news, p.1 ≠ l) :
  Con w loose mean mg mb 47 ((l, listOf vs.toArray nn) :: news) [.ref l, .int x tx] 2 (fun v n' => v = .none ∧ ∃ vs' nn', n' = ((l, listOf vs'.toArray nn') :: news) ∧ IntsAre vs' (insAt ns (bisR ns x 0 ns.length) x)) := by
  have hl1 : ns.length ≤ 1000 := by omega
  have hb := bisR_le ns x (Nat.zero_le ns.length)
  have hfit : Builtin.List.listFitsIndex (bisR ns x 0 ns.length : Nat) = true := by
    unfold Builtin.List.listFitsIndex; simp; omega
  have hsz : vs.toArray.toList.length ≤ sizeLine := by
    rw [sizeLine_eq]; have := hi.length; simp; omega
  unfold Con
  k_fill
  intro dp un gd cn cs a ccd cl outer A₀ base h₀ L m s Q E B F X N T hk hd hu hret
  k_with_none
  w_strict (refine wpAny_call ?_; k_dflt (refine' code_def ?k1 ?k2 ?k3 ?k4 ?k5 ?kA ?kF ?kK ?k6 ?k7 ?k8 ?k9 ?kB ?_ ?c2 ?c3 ?c4 ?c5; (case kA => exact rfl); (case kF => exact rfl); (case kK => assumption); (case k1 => k_asm); (case k2 => k_asm); (case k3 => k_asm); (case k4 => k_asm); (case k5 => k_asm); (case k6 => k_is); (case k7 => k_is); (case k8 => ktr_room); (case k9 => (refine' kp_binds ?kx ?ke; (case kx => k_in); (case ke => exact fun _ => rfl))); (case c5 => decide); (case kB => exact locs rfl); (case c2 => exact rfl); (case c3 => exact rfl); (case c4 => exact rfl); k_whole; intro g' L' h' FG' F' N' B' X' T'; (try dsimp only); (try k_lift B'); (try k_fold)); repeat' (first | (k_unfold; (try dsimp only)) | (k_end; wrow_close) | walk1 | (dsimp only; walk1) | (leave1; walk_say "STEP leave1"; try dsimp only) | fail "no step"))
  refine hret _ _ _ _ (by assumption) (by assumption) ⟨rfl, _, _, rfl, ?_⟩
  exact ints_ins hi _ x tx hb
end
end
section
open PySem PySem.W PyProof.Rows


local macro_rules | `(tactic| k_all) => `(tactic| assumption)
local macro_rules | `(tactic| walk_at "setItem ref int") => `(tactic| (k_here; (with_reducible show wpAny _ _ (setItem (Value.ref _) (Value.int _ _) (Value.int _ _)) _ _ _); k_dflt (refine' ksa_set ?F ?N ?U ?i ?h0 ?h1 ?hf ?_; (case F => k_asm); (case N => k_asm); (case U => k_upd); (case i => assumption); (case h0 => omega); (case h1 => omega); (case hf => omega)); intros; (try dsimp only); (try k_fold)))
/-- a contract over a list that stood before -/
def ConS (w : World) (loose : List Str) (mean : ExcName → Option Value) (mg mb : Str → Option Value) (f : Addr) (news : List (Addr × Obj)) (ls : Addr) (svs : List Value) (vs : List Value) (D : Nat) (Post : Value → List (Addr × Obj) → Prop) : Prop :=
  ∀ (dp un : Nat) (gd : Option (List Code)) (cn : Str) (cs : Scope) (a : Addr) (ccd : Value) (cl : List (Str × Addr)) (outer : List Env) (A₀ : Around) (base h₀ : Heap) (L : Addr) (m : Str → Option Value) (s : Shared) (Q E : Value → Shared → Prop),
    Below A₀ base outer h₀ → Fr h₀ L s.heap m → (Mine.heapK w.params).In h₀ → News h₀ L s.heap news → Top topProg loose mean mg mb h₀ → cs.kind = .function → base.IsList ls svs.toArray →
    dp + D < recursionLimit → un + 8 * D < cLine → (∀ v news' h' tk', Fr h₀ L h' m → News h₀ L h' news' → Post v news' → Q v { s with heap := h', toks := tk' }) →
      wpAny (model PySem.Challenge.rw_ux0026_01.row.prog w) (ktrTop dp un gd cn cs L a ccd cl outer) (call (.ref f) vs) Q E s
section
variable (w : World) (loose : List Str) (mean : ExcName → Option Value) (mg mb : Str → Option Value) (news : List (Addr × Obj))
theorem cells_ok (ls : Addr) (svs : List Value) (sns : List Int) (l : Addr) (vs : List Value) (ns : List Int) (nn : Nat) (his : IntsAre svs sns) (hls : sns.length ≤ 63) (hi : IntsAre vs ns) (hl : ns.length ≤ 6) (hl0 : 0 < ns.length) (hoff : ∀ p ∈ news, p.1 ≠ l) :
  ConS w loose mean mg mb 232 ((l, listOf vs.toArray nn) :: news) ls svs [.ref ls, .ref l] 2 (fun v n' => v = .ref l ∧ ∃ vs' ns', n' = ((l, listOf vs'.toArray nn) :: news) ∧ IntsAre vs' ns' ∧ ns'.length = ns.length) := by
  unfold ConS
  k_fill
  intro dp un gd cn cs a ccd cl outer A₀ base h₀ L m s Q E B F X N T hk hS hd hu hret
  k_with_none
  w_strict (refine wpAny_call ?_; k_dflt cell_enter; repeat' ((fail_if_success (with_reducible show wpAny _ _ (pyIter _) _ _ _)); first | (k_unfold; (try dsimp only)) | (k_end; wrow_close) | walk1 | (dsimp only; walk1) | (leave1; walk_say "STEP leave1"; try dsimp only) | fail "no step"))
  rename Fr _ _ _ _ => lF
  rename News _ _ _ _ => lN
  rename IsRange _ _ _ _ _ _ _ _ => rgX
  with_unfolding_all refine' kst_range (σ := List Value × List Int) (n := sns.length) (fun c => (l, listOf c.1.toArray nn) :: news) (fun c => []) (fun c => IntsAre c.1 c.2 ∧ c.2.length = ns.length) []  (fun pre c => True) (vs, ns) (by rfl) rgX (small_one (by omega) (by omega) (by omega) (by omega)) (by first | exact rangeSize_nat _ _ | rfl | simp [Builtin.Range.rangeSize]) ?cF ?cN ⟨hi, rfl⟩ ?kk trivial ?turn ?done
  case cF => exact lF
  case cN => exact lN
  case kk => kst_all
  case done =>
    rintro ⟨vs', ns'⟩ u h tk' hI - F N
    dsimp only at *
    k_unmd
    try k_fold
    w_strict (repeat' (first | (k_unfold; (try dsimp only)) | (k_end; wrow_close) | walk1 | (dsimp only; walk1) | (leave1; walk_say "STEP leave1"; try dsimp only) | fail "no step"))
    exact hret _ _ _ _ (by assumption) (by assumption) ⟨rfl, vs', ns', rfl, hI⟩
  case turn =>
    rintro ⟨vs', ns'⟩ pre j tj u h tk' own hj hpre hoff2 hI - F N
    dsimp only at *
    obtain ⟨hI1, hI2⟩ := hI
    have hall : ∀ p ∈ news ++ own, p.1 ≠ l := fun p hp => (List.mem_append.mp hp).elim (hoff p) (hoff2.ne (List.mem_cons_self) p)
    have hj0 : 0 ≤ j.fmod (ns'.length : Int) := by rw [Int.fmod_eq_emod_of_nonneg _ (by omega)]; exact Int.emod_nonneg _ (by omega)
    have hj1 : j.fmod (ns'.length : Int) < ns'.length := by rw [Int.fmod_eq_emod_of_nonneg _ (by omega)]; exact Int.emod_lt_of_pos _ (by omega)
    have N2 : News _ _ h ((l, listOf vs'.toArray nn) :: (news ++ own)) := N
    clear N
    k_unmd
    k_fold
    w_strict (repeat' (first | (k_unfold; (try dsimp only)) | (k_end; wrow_close) | walk1 | (dsimp only; walk1) | (leave1; walk_say "STEP leave1"; try dsimp only) | fail "no step"))
    refine' kst_end (_, _) (by assumption) (by assumption) ?hn ?ho ?ha ⟨?hi9, ?hf⟩ ?kk ?kr trivial
    case hi9 => assumption
    case ha => rfl
    case hn => exact fun p hp => (List.mem_cons.mp hp).elim (fun e => e ▸ List.mem_cons_self) fun h9 => List.mem_cons_of_mem _ (List.mem_append.mpr (.inl h9))
    case ho => exact fun p hp => List.mem_cons_of_mem _ (List.mem_append.mpr (.inr hp))
    case hf => rw [← hI2]; assumption
    case kk => exact fun _ h9 => nomatch h9
    case kr => (intro z h1 h2 h3; simp only [List.forall_mem_cons, List.not_mem_nil, false_implies, implies_true, and_true, ne_eq] at h2; simp only [List.contains_cons, List.contains_nil, Bool.or_false, Bool.or_eq_false_iff, beq_eq_false_iff_ne, ne_eq] at h3; simp [kstB, h1, h2, h3])
end
end
section
open PySem PySem.W PyProof.Rows


local macro_rules | `(tactic| walk_at "subscriptTail") => `(tactic| (k_here; (with_reducible show wpAny _ _ (subscriptTail _ _ (Value.ref _) (Value.int (-1) _)) _ _ _); (with_unfolding_all refine' last_I ?k1 ?k2 ?k3 ?k4 ?k5 ?kr); (case k1 => k_asm); (case k2 => k_mem); (case k3 => assumption); (case k4 => omega); (case k5 => omega); intro t9; (try dsimp only); (try k_fold)))
local macro_rules | `(tactic| k_all) => `(tactic| assumption)
local macro_rules | `(tactic| walk_at "mine use 1") => `(tactic| (k_here; (with_reducible show wpAny _ _ (call (Value.ref 239) [Value.int _ _, Value.int _ _, Value.str _ _, Value.str _ _]) _ _ _); k_dflt ((refine' Con.use (part_okI _ _ _ _ _ _ _ _ _ _ _ _ _ _ ?c1 ?c2 ?c3 ?c4 ?c5 ?c6) ?k1 ?k2 ?k3 ?k4 ?k5 ?kK ?kd ?ku ?kr); (case k1 => k_asm); (case k2 => k_asm); (case k3 => k_asm); (case k4 => k_asm); (case k5 => k_asm); (case kK => first | exact rfl | assumption); (case kd => ktr_room); (case ku => ktr_units); (case c1 => omega); (case c2 => omega); (case c3 => omega); (case c4 => assumption); (case c5 => assumption); (case c6 => assumption); intro v9 n9 h9 tk9 F9 N9 P9; (obtain ⟨e9, t9, f9⟩ := P9); (replace e9 := e9.symm); (subst e9); (subst f9)); (try dsimp only); (try k_fold)))
local macro_rules | `(tactic| walk_at "call ref") => `(tactic| walk_at "mine use 1")
section
variable (w : World) (loose : List Str) (mean : ExcName → Option Value) (mg mb : Str → Option Value) (news : List (Addr × Obj))
def rowsD (step readings : Nat) (n : Nat) : List Dat := (List.range n).map fun i => dints (rowF step readings i)
theorem rows_ok (step : Nat) (ts : Tok) (r : Nat) (tr : Tok) (l : Nat) (tl : Tok) (t : List Nat) (tt : Tok) (hs2 : 2 ≤ step) (hs5 : step ≤ 5) (hr : r ≤ 10) (hl : 97 ≤ l ∧ l ≤ 122) (ht : Tail t) (htl : t.length ≤ 10) :
  Con w loose mean mg mb 246 news [.int step ts, .int r tr, .str (tx [l]) tl, .str (tx t) tt] 3
    (fun v n' => ∃ lr vs nn tl, v = .ref lr ∧ n' = (lr, listOf vs.toArray nn) :: (news ++ tl) ∧ OwnOff tl (lr :: news.map (·.1)) ∧ (∀ p ∈ news, p.1 ≠ lr) ∧ DatAll (news ++ tl) vs (rowsD step r 6)) := by
  unfold Con
  k_fill
  intro dp un gd cn cs a ccd cl outer A₀ base h₀ L m s Q E B F X N T hk hd hu hret
  k_with_none
  w_strict (refine wpAny_call ?_; k_dflt cell_enter; repeat' ((fail_if_success (with_reducible show wpAny _ _ (pyIter _) _ _ _)); first | (k_unfold; (try dsimp only)) | (k_end; wrow_close) | walk1 | (dsimp only; walk1) | (leave1; walk_say "STEP leave1"; try dsimp only) | fail "no step"))
  rename_i lr h2 l1 h1 F1 N1 hh tk1 t1 u1 v1 rgX lF lN lK
  with_unfolding_all refine' kd_range (σ := List Value × Nat) (n := 6) (fun c => [(lr, listOf c.1.toArray c.2)]) news (fun _ => []) (fun led c => DatAll led c.1 (rowsD step r c.1.length)) [Str.ofString "row"] (fun pre c => c.1.length = pre.length) (lr :: news.map (·.1)) ([], 0)  (by rfl) rgX (by decide) (by rfl) ?cF ?cN ?hn (fun _ => rfl) .nil (fun _ h9 => nomatch h9) rfl ?turn ?done
  case cF => exact lF
  case cN => exact lN
  case hn => exact fun p hp => by simpa using hp
  case done =>
    rintro ⟨vs, nn⟩ tl2 u h tk' hoff hI hP F N
    dsimp only at *
    k_unmd
    try k_fold
    w_strict (repeat' (first | (k_unfold; (try dsimp only)) | (k_end; wrow_close) | walk1 | (dsimp only; walk1) | (leave1; walk_say "STEP leave1"; try dsimp only) | fail "no step"))
    rw [rangeKs_length] at hP
    rw [hP] at hI
    exact hret _ _ _ _ (by assumption) (by assumption) ⟨lr, vs, nn, tl2, rfl, rfl, hoff, fun p hp => Nat.ne_of_lt (l1 p hp), hI⟩
  case turn =>
    rintro ⟨vs, nn⟩ tl2 pre j tj u h tk' own hj hpre hsep hoff hI hP F N
    dsimp only at *
    clear F1 N1 lF lN lK rgX
    have hj' : j = (pre.length : Int) := by omega
    subst hj'
    k_unmd
    k_fold
    w_strict (repeat' ((fail_if_success (with_reducible show wpAny _ _ (exec (Stmt.While _ _ _ _) _) _ _ _)); first | (k_unfold; (try dsimp only)) | (k_end; wrow_close) | walk1 | (dsimp only; walk1) | (leave1; walk_say "STEP leave1"; try dsimp only) | fail "no step"))
    rename_i la hA FA NA lA hB FB NB
    clear FA NA
    have hmul : pre.length * step ≤ 5 * 5 := Nat.mul_le_mul (by omega) hs5
    have hoffA : ∀ p ∈ (lr, listOf vs.toArray nn) :: (news ++ (tl2 ++ own)), p.1 ≠ la := fun p hp => Nat.ne_of_lt (lA p hp)
    have hne : @LT.lt Nat _ lr la := lA _ List.mem_cons_self
    have hoffR : ∀ p ∈ news ++ (tl2 ++ own), p.1 ≠ lr := fun p hp => (List.mem_append.mp hp).elim (fun h9 => Nat.ne_of_lt (l1 p h9)) (hoff.ne List.mem_cons_self p)
    with_unfolding_all refine' ksw_while (σ := List Value × List Int × Nat) (fun c => (la, listOf c.1.toArray c.2.2) :: (lr, listOf vs.toArray nn) :: (news ++ (tl2 ++ own))) (fun _ => []) (fun c => IntsAre c.1 c.2.1) []  (fun c => 1 ≤ c.2.1.length ∧ (c.2.1.length : Int) ≤ lastZ c.2.1 ∧ lastZ c.2.1 ≤ 100 ∧ rowGo step r (50 - c.2.1.length) c.2.1 = rowF step r pre.length)  (fun c => (100 - lastZ c.2.1).toNat) ([_], [(pre.length : Int) * step + 1], 0) ?cF ?cN (.cons _ _ .nil) (fun _ h9 => nomatch h9) ?kp ?turn2 (hE := ?hE)
    case cF => exact FB
    case cN => exact NB
    case hE => passes_own
    case kp =>
      have e1 : lastZ [(pre.length : Int) * step + 1] = ((pre.length * step + 1 : Nat) : Int) := by unfold lastZ; simp
      refine ⟨?_, ?_, ?_, ?_⟩
      · show 1 ≤ 1; exact Nat.le_refl _
      · show ((1 : Nat) : Int) ≤ lastZ [(pre.length : Int) * step + 1]; rw [e1]; omega
      · show lastZ [(pre.length : Int) * step + 1] ≤ 100; rw [e1]; omega
      · show rowGo step r 49 [(pre.length : Int) * step + 1] = rowF step r pre.length
        unfold rowF; congr 1 <;> simp
    case turn2 =>
      rintro ⟨rv, ri, rn⟩ u2 h9 tk9 hI2 hP2 F2 N2
      clear FB NB
      dsimp only at *
      obtain ⟨p1, p2, p3, p4⟩ := hP2
      have hhl := halves_le (n := (lastZ ri).toNat) (b := (lastZ ri).toNat) (Nat.le_refl _) (by omega) r
      have hhp := halves_pos (n := (lastZ ri).toNat) (by omega) r
      have hlen := hI2.length
      have hlast : ri.getD (-1 + (ri.length : Int)).toNat 0 = lastZ ri := by unfold lastZ; congr 1; omega
      k_unmd
      k_fold
      w_strict (repeat' (first | (k_unfold; (try dsimp only)) | (k_end; wrow_close) | walk1 | (dsimp only; walk1) | (leave1; walk_say "STEP leave1"; try dsimp only) | fail "no step"))
      · rename ri.getD _ _ ≤ _ => hq
        rw [hlast] at hq
        rename News _ _ _ _ => nE
        simp only [List.push_toArray, hlast] at nE
        refine ksw_end (rv ++ [Value.int (lastZ ri + (halves r (lastZ ri).toNat : Nat)) _], ri ++ [lastZ ri + (halves r (lastZ ri).toNat : Nat)], rn + 1) (by assumption) nE (by exact fun _ h9 => h9) (by exact hI2.append (.cons _ _ .nil)) (fun _ h9 => nomatch h9) ?kr ?kp ?km
        case kr => (intro z h2 h3; simp only [List.forall_mem_cons, List.not_mem_nil, false_implies, implies_true, and_true, ne_eq] at h2; simp only [List.contains_cons, List.contains_nil, Bool.or_false, Bool.or_eq_false_iff, beq_eq_false_iff_ne, ne_eq] at h3; simp [kstB, h2, h3])
        case kp =>
          dsimp only
          rw [lastZ_snoc, List.length_append, show ∀ x : Int, [x].length = 1 from fun _ => rfl, ← p4]
          refine ⟨by omega, by omega, by omega, ?_⟩
          rw [show 50 - ri.length = (50 - (ri.length + 1)) + 1 from by omega, rowGo_on hq]
        case km =>
          dsimp only
          rw [lastZ_snoc]
          omega
      · rename ¬ ri.getD _ _ ≤ _ => hq
        rw [hlast] at hq
        rename News _ _ _ _ => nE
        have nE2 := nE
        rw [show vs.toArray.push (Value.ref la) = (vs ++ [Value.ref la]).toArray from by simp] at nE
        have hri : ri = rowF step r pre.length := by rw [← p4, rowGo_end hq]
        refine' kd_end (vs ++ [.ref la], nn + 1) [(la, listOf rv.toArray rn)] hsep (by assumption) nE ?hn ?ho rfl ?hb ?hw (fun _ h9 => nomatch h9) ?hr ?hf ?hp
        case hn =>
          intro p hp
          simp only [List.mem_append, List.mem_cons, List.not_mem_nil, or_false] at hp ⊢
          rcases hp with h1 | h1 | h1 | h1 <;> simp [h1]
        case ho =>
          intro p hp
          simp only [List.mem_append, List.mem_cons]
          simp [hp]
        case hb =>
          intro q hq b hb
          rw [List.mem_singleton.mp hq]
          rcases List.mem_cons.mp hb with rfl | hb
          · exact Nat.ne_of_lt hne
          · obtain ⟨p, hp, rfl⟩ := List.mem_map.mp hb
            exact hoffA p (List.mem_cons_of_mem _ (List.mem_append.mpr (.inl hp)))
        case hw =>
          intro q hq p hp
          rw [List.mem_singleton.mp hq]
          exact hoffA p (List.mem_cons_of_mem _ (List.mem_append.mpr (.inr (List.mem_append.mpr (.inr hp)))))
        case hr => (intro z h1 h2 h3; simp only [List.forall_mem_cons, List.not_mem_nil, false_implies, implies_true, and_true, ne_eq] at h2; simp only [List.contains_cons, List.contains_nil, Bool.or_false, Bool.or_eq_false_iff, beq_eq_false_iff_ne, ne_eq] at h3; simp [kstB, h1, h2, h3])
        case hf =>
          dsimp only
          rw [List.length_append, show [Value.ref la].length = 1 from rfl, rowsD, List.range_succ, List.map_append]
          refine DatAll.append (DatAll.mono kd_sub hI) (.one ?_)
          show DatIn _ _ (dints (rowF step r vs.length))
          rw [hP, ← hri]
          exact .list (n := rn) (List.mem_append.mpr (.inr List.mem_cons_self)) (dat_ints hI2)
        case hp =>
          dsimp only
          rw [List.length_append, List.length_append, hP]; rfl
end
end
section
open PySem PySem.W PyProof.Rows


local macro_rules | `(tactic| k_all) => `(tactic| assumption)
local macro_rules | `(tactic| walk_at "mine use 1") => `(tactic| (k_here; (with_reducible show wpAny _ _ (call (Value.ref 47) [Value.ref _, Value.int _ _]) _ _ _); k_dflt ((refine' Con.use (ins_ok _ _ _ _ _ _ _ _ _ _ _ _ ?c1 ?c2 ?c3) ?k1 ?k2 ?k3 ?k4 ?k5 ?kK ?kd ?ku ?kr); (case k1 => k_asm); (case k2 => k_asm); (case k3 => k_asm); (case k4 => k_asm); (case k5 => k_asm); (case kK => first | exact rfl | assumption); (case kd => ktr_room); (case ku => ktr_units); (case c1 => assumption); (case c2 => omega); (case c3 => assumption); intro v9 n9 h9 tk9 F9 N9 P9; (obtain ⟨f9, vs9, nn9, e9, I9⟩ := P9); (subst f9); (subst e9)); (try dsimp only); (try k_fold)))
local macro_rules | `(tactic| walk_at "call ref") => `(tactic| walk_at "mine use 1")
theorem drop_at' {α : Type} {x : List α} {i : Nat} {c : α} (h : x[i]? = some c) : x.drop i = c :: x.drop (i + 1) := by
  obtain ⟨hl, e⟩ := List.getElem?_eq_some_iff.mp h
  rw [List.drop_eq_getElem_cons hl, e]
theorem mem_fix {x p : Addr × Obj} {cst tl own : List (Addr × Obj)} (h : p ∈ [x] ++ (cst ++ ([] ++ tl))) : p ∈ x :: (cst ++ (tl ++ own)) := by
  simp only [List.mem_append, List.mem_cons, List.not_mem_nil, or_false, false_or] at h ⊢
  rcases h with h | h | h <;> simp [h]
theorem mem_own {x p : Addr × Obj} {cst tl own : List (Addr × Obj)} (h : p ∈ own) : p ∈ x :: (cst ++ (tl ++ own)) := by simp [h]
/-- all numbers laid in by insort_right -/
def insAll (ns : List Int) (xs : List Int) : List Int := xs.foldl (fun a x => insAt a (bisR a x 0 a.length) x) ns
theorem insAll_len (xs : List Int) : ∀ ns : List Int, (insAll ns xs).length = ns.length + xs.length := by
  induction xs with
  | nil => intro ns; rfl
  | cons x r ih => intro ns; show (insAll _ r).length = _; rw [ih, insAt_len, List.length_cons]; omega
theorem insAll_snoc (ns xs : List Int) (x : Int) : insAll ns (xs ++ [x]) = insAt (insAll ns xs) (bisR (insAll ns xs) x 0 (insAll ns xs).length) x := by
  unfold insAll; rw [List.foldl_append]; rfl
theorem insAll_app (ns xs ys : List Int) : insAll ns (xs ++ ys) = insAll (insAll ns xs) ys := by
  unfold insAll; rw [List.foldl_append]
section
variable (w : World) (loose : List Str) (mean : ExcName → Option Value) (mg mb : Str → Option Value) (news : List (Addr × Obj))
theorem order_ok (lr : Addr) (vs : List Value) (nn : Nat) (rows : List (List Int)) (hm : (lr, listOf vs.toArray nn) ∈ news) (hd : DatAll news vs (rows.map dints)) (hn : rows.flatten.length ≤ 900) :
  Con w loose mean mg mb 253 news [.ref lr] 3
    (fun v n' => ∃ lo vs' nn', v = .ref lo ∧ n' = (lo, listOf vs'.toArray nn') :: news ∧ (∀ p ∈ news, p.1 ≠ lo) ∧ IntsAre vs' (insAll [] rows.flatten)) := by
  unfold Con
  k_fill
  intro dp un gd cn cs a ccd cl outer A₀ base h₀ L m s Q E B F X N T hk hd' hu hret
  k_with_none
  w_strict (refine wpAny_call ?_; k_dflt cell_enter; repeat' ((fail_if_success (with_reducible show wpAny _ _ (pyIter _) _ _ _)); first | (k_unfold; (try dsimp only)) | (k_end; wrow_close) | walk1 | (dsimp only; walk1) | (leave1; walk_say "STEP leave1"; try dsimp only) | fail "no step"))
  rename_i lo h2 l1 h1 F1 N1
  with_unfolding_all refine' kd_listL (σ := List Value × List Int × Nat) (fun c => [(lo, listOf c.1.toArray c.2.2)]) news (fun _ => []) (fun led c => IntsAre c.1 c.2.1) [Str.ofString "number"] (fun pre c => ∃ k, k ≤ rows.length ∧ pre = (rows.take k).map dints ∧ c.2.1 = insAll [] (rows.take k).flatten) (lo :: news.map (·.1)) ([], [], 0)  (by rfl) hm ?hd F1 N1 ?hn (fun _ => rfl) .nil (fun _ h9 => nomatch h9) ?hp ?turn ?done
  case hd => rw [List.append_nil]; exact hd
  case hn => exact fun p hp => by simpa using hp
  case hp => exact ⟨0, Nat.zero_le _, rfl, rfl⟩
  case done =>
    rintro ⟨ov, on, n2⟩ tl2 u h tk' hoff hI ⟨k, hk1, hk2, hk3⟩ F N
    dsimp only at *
    have hk : (rows.take k) = rows := by
      have := congrArg List.length hk2
      rw [List.length_map, List.length_map, List.length_take] at this
      exact List.take_of_length_le (by omega)
    rw [hk] at hk3
    subst hk3
    k_unmd
    try k_fold
    w_strict (repeat' (first | (k_unfold; (try dsimp only)) | (k_end; wrow_close) | walk1 | (dsimp only; walk1) | (leave1; walk_say "STEP leave1"; try dsimp only) | fail "no step"))
    exact hret _ _ _ _ (by assumption) (cb_drop (by assumption) (fun p hp => by
      rcases List.mem_cons.mp hp with rfl | hp
      · simp
      · simp [hp])) ⟨lo, ov, n2, rfl, rfl, fun p hp => Nat.ne_of_lt (l1 p hp), hI⟩
  case turn =>
    rintro ⟨ov, on, n2⟩ tl2 pre d post v u h tk' own hds hdm hv hsep hoff hI ⟨k, hk1, hk2, hk3⟩ F N
    dsimp only at *
    clear F1 N1
    have hpl : pre.length = k := by rw [hk2, List.length_map, List.length_take]; omega
    have hdk : (rows.map dints)[k]? = some d := by rw [hds, List.getElem?_append_right (by omega), hpl, Nat.sub_self]; rfl
    rw [List.getElem?_map] at hdk
    obtain ⟨row, hrow, hdr⟩ := Option.map_eq_some_iff.mp hdk
    subst hdr
    have hk4 : k < rows.length := (List.getElem?_eq_some_iff.mp hrow).1
    have hfl : (rows.take k).flatten.length + row.length ≤ 900 := by
      have e : rows = rows.take k ++ (row :: rows.drop (k + 1)) := by
        conv => lhs; rw [← List.take_append_drop k rows]
        rw [drop_at' hrow]
      have := congrArg (fun x : List (List Int) => x.flatten.length) e
      simp only [List.flatten_append, List.flatten_cons, List.length_append] at this
      omega
    unfold dints at hv
    cases hv with
    | @list la va na _ hmA hdA =>
      have hIA := ints_dat hdA
      have hmA' : (la, listOf va.toArray na) ∈ news ++ (tl2 ++ own) := by
        rcases List.mem_append.mp hmA with h9 | h9 <;> simp [h9]
      have hoffR : ∀ p ∈ news ++ (tl2 ++ own), p.1 ≠ lo := fun p hp => (List.mem_append.mp hp).elim (fun h9 => Nat.ne_of_lt (l1 p h9)) (hoff.ne List.mem_cons_self p)
      have hon : on.length = (rows.take k).flatten.length := by rw [hk3, insAll_len]; simp
      k_unmd
      k_fold
      w_strict (repeat' ((fail_if_success (with_reducible show wpAny _ _ (pyIter _) _ _ _)); first | (k_unfold; (try dsimp only)) | (k_end; wrow_close) | walk1 | (dsimp only; walk1) | (leave1; walk_say "STEP leave1"; try dsimp only) | fail "no step"))
      rename Fr _ _ _ _ => FA
      rename News _ _ _ _ => NA
      with_unfolding_all refine' kd_listI (σ := List Value × List Int × Nat) (fun c => [(lo, listOf c.1.toArray c.2.2)]) (news ++ (tl2 ++ own)) (fun _ => []) (fun led c => IntsAre c.1 c.2.1) [] (fun pre c => c.2.1 = insAll on pre) (lo :: (news ++ (tl2 ++ own)).map (·.1)) (ov, on, n2)  (by rfl) hmA' hIA FA NA ?hn (fun _ => rfl) hI (fun _ h9 => nomatch h9) rfl ?turn ?done
      case hn => exact fun p hp => by simpa using hp
      case done =>
        rintro ⟨iv, ins, n3⟩ tl3 u3 h3 tk3 hoff3 hI3 hP3 F3 N3
        clear FA NA F N
        dsimp only at *
        k_unmd
        try k_fold
        w_strict (repeat' (first | (k_unfold; (try dsimp only)) | (k_end; wrow_close) | walk1 | (dsimp only; walk1) | (leave1; walk_say "STEP leave1"; try dsimp only) | fail "no step"))
        have N4 : News _ _ h3 ((lo, listOf iv.toArray n3) :: ((news ++ (tl2 ++ own)) ++ tl3)) := N3
        refine kd_end (iv, ins, n3) [] hsep (by assumption) N4 ?hn ?ho rfl (fun _ h9 => nomatch h9) (fun _ h9 => nomatch h9) (fun _ h9 => nomatch h9) ?hr hI3 ?hp
        case hn =>
          intro p hp
          simp only [List.mem_append, List.mem_cons, List.not_mem_nil, or_false, false_or] at hp ⊢
          rcases hp with h | h | h <;> simp [h]
        case ho => intro p hp; simp [hp]
        case hr => (intro z h1 h2 h3; simp only [List.forall_mem_cons, List.not_mem_nil, false_implies, implies_true, and_true, ne_eq] at h2; simp only [List.contains_cons, List.contains_nil, Bool.or_false, Bool.or_eq_false_iff, beq_eq_false_iff_ne, ne_eq] at h3; simp [kstB, h1, h2, h3])
        case hp =>
          refine ⟨k + 1, hk4, ?_, ?_⟩
          · rw [hk2, List.take_add_one, hrow]; simp
          · show ins = _
            rw [hP3, List.take_add_one, hrow, hk3, List.flatten_append, insAll_app]; simp
      case turn =>
        rintro ⟨iv, ins, n3⟩ tl3 pre3 post3 x tx u3 h3 tk3 own3 hx hxm hsep3 hoff3 hI3 hP3 F3 N3
        clear FA NA F N
        dsimp only at *
        have hins : ins.length ≤ 999 := by
          have h9 := congrArg List.length hx
          rw [List.length_append, List.length_cons] at h9
          rw [hP3, insAll_len]; omega
        have N4 : News _ _ h3 ((lo, listOf iv.toArray n3) :: ((news ++ (tl2 ++ own)) ++ (tl3 ++ own3))) := N3
        have hoffR3 : ∀ p ∈ (news ++ (tl2 ++ own)) ++ (tl3 ++ own3), p.1 ≠ lo := fun p hp => (List.mem_append.mp hp).elim (hoffR p) (hoff3.ne List.mem_cons_self p)
        clear N3
        k_unmd
        try k_fold
        w_strict (repeat' (first | (k_unfold; (try dsimp only)) | (k_end; wrow_close) | walk1 | (dsimp only; walk1) | (leave1; walk_say "STEP leave1"; try dsimp only) | fail "no step"))
        rename IntsAre _ (insAt _ _ _) => I9
        refine kd_end (_, _, _) [] hsep3 (by assumption) (by assumption) (by exact fun p hp => mem_fix hp) (fun p hp => mem_own hp) rfl (fun _ h9 => nomatch h9) (fun _ h9 => nomatch h9) (fun _ h9 => nomatch h9) ?hr (by exact I9) ?hp
        case hr => (intro z h1 h2 h3; simp only [List.forall_mem_cons, List.not_mem_nil, false_implies, implies_true, and_true, ne_eq] at h2; simp only [List.contains_cons, List.contains_nil, Bool.or_false, Bool.or_eq_false_iff, beq_eq_false_iff_ne, ne_eq] at h3; simp [kstB, h1, h2, h3])
        case hp =>
          show insAt ins _ x = _
          rw [insAll_snoc, ← hP3]
end
end
section
local macro_rules | `(tactic| walk_at "pad") => `(tactic| fail)
open PySem PySem.W PyProof.Rows


theorem pat_name (w : World) (h : Heap) (X : (Mine.heapK w.params).In h) : PatAt h 93 nameCode :=
  ⟨⟨_, _, _, _, _, _, X _ _ (by rfl), rfl, rfl, rfl, rfl, rfl, rfl, X _ _ (by rfl), rfl, by decide +kernel⟩⟩
theorem pat_value (w : World) (h : Heap) (X : (Mine.heapK w.params).In h) : PatAt h 98 valueCode :=
  ⟨⟨_, _, _, _, _, _, X _ _ (by rfl), rfl, rfl, rfl, rfl, rfl, rfl, X _ _ (by rfl), rfl, by decide +kernel⟩⟩
/-- a call's contract, keywords and all -/
def ConK (w : World) (loose : List Str) (mean : ExcName → Option Value) (mg mb : Str → Option Value) (f : Addr) (news : List (Addr × Obj)) (vs : List Value) (kw : List (Str × Value)) (D : Nat) (Post : Value → List (Addr × Obj) → Prop) : Prop :=
  ∀ (dp un : Nat) (gd : Option (List Code)) (cn : Str) (cs : Scope) (a : Addr) (ccd : Value) (cl : List (Str × Addr)) (outer : List Env) (A₀ : Around) (base h₀ : Heap) (L : Addr) (m : Str → Option Value) (s : Shared) (Q E : Value → Shared → Prop),
    Below A₀ base outer h₀ → Fr h₀ L s.heap m → (Mine.heapK w.params).In h₀ → News h₀ L s.heap news → Top topProg loose mean mg mb h₀ → cs.kind = .function →
    dp + D < recursionLimit → un + 8 * D < cLine → (∀ v news' h' tk', Fr h₀ L h' m → News h₀ L h' news' → Post v news' → Q v { s with heap := h', toks := tk' }) →
      wpAny (model PySem.Challenge.rw_ux0026_01.row.prog w) (ktrTop dp un gd cn cs L a ccd cl outer) (call (.ref f) vs kw) Q E s
theorem ConK.use {w : World} {loose : List Str} {mean : ExcName → Option Value} {mg mb : Str → Option Value} {f : Addr} {news : List (Addr × Obj)} {vs : List Value} {kw : List (Str × Value)} {D : Nat} {Post : Value → List (Addr × Obj) → Prop}
    {dp un : Nat} {gd : Option (List Code)} {cn : Str} {cs : Scope} {a : Addr} {ccd : Value} {cl : List (Str × Addr)} {outer : List Env} {A₀ : Around} {base h₀ : Heap} {L : Addr} {m : Str → Option Value} {s : Shared} {Q E : Value → Shared → Prop}
    (c : ConK w loose mean mg mb f news vs kw D Post) (B : Below A₀ base outer h₀) (F : Fr h₀ L s.heap m) (X : (Mine.heapK w.params).In h₀) (N : News h₀ L s.heap news) (T : Top topProg loose mean mg mb h₀) (hk : cs.kind = .function)
    (hd : dp + D < recursionLimit) (hu : un + 8 * D < cLine) (ret : ∀ v news' h' tk', Fr h₀ L h' m → News h₀ L h' news' → Post v news' → Q v { s with heap := h', toks := tk' }) :
    wpAny (model PySem.Challenge.rw_ux0026_01.row.prog w) (ktrTop dp un gd cn cs L a ccd cl outer) (call (.ref f) vs kw) Q E s := c _ _ _ _ _ _ _ _ _ _ _ _ _ _ _ _ _ B F X N T hk hd hu ret
local macro_rules | `(tactic| walk_at "getMethod ref") => `(tactic| (k_here; (with_reducible show wpAny _ _ (getMethod (Value.ref _) (Str.ofString "search") _) _ _ _); k_dflt (first
  | (refine' method_search (pat_name _ _ ?p) ?_; (case p => k_in))
  | (refine' method_search (pat_value _ _ ?p) ?_; (case p => k_in)))))
local macro_rules | `(tactic| walk_at "call builtin:re.Pattern.search") => `(tactic| (k_here; k_dflt (first
  | (refine' search_name (pat_name _ _ ?p) ?c1 ?c2 ?_; (case p => k_in); (case c1 => assumption); (case c2 => assumption))
  | (refine' search_value (pat_value _ _ ?p) ?c1 ?c2 ?_; (case p => k_in); (case c1 => assumption); (case c2 => assumption)))))
section
variable (w : World) (loose : List Str) (mean : ExcName → Option Value) (mg mb : Str → Option Value) (news : List (Addr × Obj))
theorem conv_ok (sv : Value) (x : Str) (t : Tok) (b : Bool) (hx : x.length ≤ 1000000) (hc : Clean x.cps) :
  ConK w loose mean mg mb 120 news [sv, .str x t] [(Str.ofString "name", .bool b)] 1 (fun v n' => n' = news ∧ v = .str x t) := by
  unfold ConK
  k_fill
  intro dp un gd cn cs a ccd cl outer A₀ base h₀ L m s Q E B F X N T hk hd hu hret
  k_with_none
  cases b
  all_goals w_strict (refine wpAny_call ?_; k_dflt (refine' code_def ?k1 ?k2 ?k3 ?k4 ?k5 ?kA ?kF ?kK ?k6 ?k7 ?k8 ?k9 ?kB ?_ ?c2 ?c3 ?c4 ?c5; (case kA => exact rfl); (case kF => exact rfl); (case kK => assumption); (case k1 => k_asm); (case k2 => k_asm); (case k3 => k_asm); (case k4 => k_asm); (case k5 => k_asm); (case k6 => k_is); (case k7 => k_is); (case k8 => ktr_room); (case k9 => (refine' kp_binds ?kx ?ke; (case kx => k_in); (case ke => exact fun _ => rfl))); (case c5 => decide); (case kB => exact locs rfl); (case c2 => exact rfl); (case c3 => exact rfl); (case c4 => exact rfl); k_whole; intro g' L' h' FG' F' N' B' X' T'; (try dsimp only); (try k_lift B'); (try k_fold)); repeat' (first | (k_unfold; (try dsimp only)) | (k_end; wrow_close) | walk1 | (dsimp only; walk1) | (leave1; walk_say "STEP leave1"; try dsimp only) | fail "no step"))
  all_goals exact hret _ _ _ _ (by assumption) (by assumption) ⟨rfl, rfl⟩
end
end
section
open PySem PySem.W PyProof.Rows


local macro_rules | `(tactic| walk_at "call ref") => `(tactic| (k_here; (with_reducible show wpAny _ _ (call (Value.ref 120) [_, Value.str _ _] _) _ _ _); k_dflt (refine' ConK.use (conv_ok _ _ _ _ _ _ _ _ _ _ ?c1 ?c2) ?k1 ?k2 ?k3 ?k4 ?k5 ?kK ?kd ?ku ?kr); (case k1 => k_asm); (case k2 => k_asm); (case k3 => k_asm); (case k4 => k_asm); (case k5 => k_asm); (case kK => first | exact rfl | assumption); (case kd => ktr_room); (case ku => ktr_units); (case c1 => assumption); (case c2 => assumption); intro v9 n9 h9 tk9 F9 N9 P9; (obtain ⟨e9, f9⟩ := P9); (replace e9 := e9.symm); (subst e9); (subst f9); (try dsimp only); (try k_fold)))
section
variable (w : World) (loose : List Str) (mean : ExcName → Option Value) (mg mb : Str → Option Value) (news : List (Addr × Obj))
theorem get_ok (x dx : Addr) (hs : Int) (tk : Tok) (nd : Nat) (lp : Addr) (vs : List Value) (nn : Nat) (ps : List PT) (k : List Nat) (t : Tok) (H : HdAt 221 news x dx hs tk nd lp vs nn ps) (hk1 : k.length ≤ 1000) (hk2 : ∀ c ∈ k, 32 ≤ c ∧ c < 127) (ha : ∀ p ∈ ps, Asc p.1 ∧ p.1.length ≤ 1000) :
  Con w loose mean mg mb 168 news [.ref x, .str (tx k) t] 2 (fun v n' => n' = news ∧ match getF ps k with | some y => ∃ u, v = .str (tx y) u | none => v = .none) := by
  obtain ⟨hm1, hm2, hm3, hps⟩ := H
  have hka : Asc k := fun c h9 => Nat.lt_of_lt_of_le (hk2 c h9).2 (by omega)
  have hlk := lower_tx hka
  have hc1 : (Txt.lower (tx k)).length ≤ 1000000 := by rw [hlk, tx_len, List.length_map]; omega
  have hc2 : Clean (Txt.lower (tx k)).cps := by
    rw [hlk]
    intro c hc
    rw [tx_cps] at hc
    obtain ⟨b, hb, rfl⟩ := List.mem_map.mp hc
    have := hk2 b hb
    unfold lo; split <;> omega
  have hkl : (tx k).length ≤ 1000 := by rw [tx_len]; exact hk1
  unfold Con
  k_fill
  intro dp un gd cn cs a ccd cl outer A₀ base h₀ L m s Q E B F X N T hk hd hu hret
  k_with_none
  w_strict (refine wpAny_call ?_; k_dflt (refine' code_def ?k1 ?k2 ?k3 ?k4 ?k5 ?kA ?kF ?kK ?k6 ?k7 ?k8 ?k9 ?kB ?_ ?c2 ?c3 ?c4 ?c5; (case kA => exact rfl); (case kF => exact rfl); (case kK => assumption); (case k1 => k_asm); (case k2 => k_asm); (case k3 => k_asm); (case k4 => k_asm); (case k5 => k_asm); (case k6 => k_is); (case k7 => k_is); (case k8 => ktr_room); (case k9 => exact binds_K (by k_in) rfl (by k_is) rfl rfl rfl); (case c5 => decide); (case kB => exact locs rfl); (case c2 => exact rfl); (case c3 => exact rfl); (case c4 => exact rfl); k_whole; intro g' L' h' FG' F' N' B' X' T'; (try dsimp only); (try k_lift B'); (try k_fold)); repeat' ((fail_if_success (with_reducible show wpAny _ _ (pyIter _) _ _ _)); first | (k_unfold; (try dsimp only)) | (k_end; wrow_close) | walk1 | (dsimp only; walk1) | (leave1; walk_say "STEP leave1"; try dsimp only) | fail "no step"))
  rename Fr _ _ _ _ => lF
  rename News _ _ _ _ => lN
  have hlen : vs.length = ps.length := by rw [hps.length, List.length_map]
  with_unfolding_all refine' iter_same [Str.ofString "k", Str.ofString "v"] (fun i => ∀ j p, j < i → ps[j]? = some p → p.1.map lo ≠ k.map lo) (by rfl) lF lN hm3 (fun _ _ h9 => absurd h9 (Nat.not_lt_zero _)) ?turn ?done
  case done =>
    intro u h tk' hP F N
    clear lF lN
    dsimp only at *
    have hg : getF ps k = none := by
      unfold getF
      rw [Option.map_eq_none_iff, List.find?_eq_none]
      intro p hp
      obtain ⟨j, hj, rfl⟩ := List.getElem_of_mem hp
      simpa using hP j _ (by rw [hlen]; exact hj) (List.getElem?_eq_getElem hj)
    k_unmd
    try k_fold
    w_strict (repeat' (first | (k_unfold; (try dsimp only)) | (k_end; wrow_close) | walk1 | (dsimp only; walk1) | (leave1; walk_say "STEP leave1"; try dsimp only) | fail "no step"))
    refine hret _ _ _ _ (by assumption) (by assumption) ⟨rfl, ?_⟩
    rw [hg]
  case turn =>
    intro i v u h tk' I oI hv hP hoff F N
    clear lF lN
    dsimp only at *
    have hi : i < ps.length := by rw [← hlen]; exact (List.getElem?_eq_some_iff.mp hv).1
    have hpi : ps[i]? = some (ps[i]'hi) := List.getElem?_eq_getElem hi
    obtain ⟨v2, hv2, hd⟩ := hps.get (k := i) (by rw [List.length_map]; exact hi)
    rw [hv] at hv2
    cases hv2
    rw [List.getElem_map] at hd
    obtain ⟨T, t1, t2, nT, rfl, hT⟩ := pair_at hd
    obtain ⟨ha1, ha2⟩ := ha (ps[i]'hi) (List.getElem_mem hi)
    have hlp := lower_tx ha1
    have hll : (tx (ps[i]'hi).1).length ≤ 1000 := by rw [tx_len]; exact ha2
    have hTup := News.isTup N (List.mem_cons_of_mem _ hT)
    k_unmd
    k_fold
    w_strict (repeat' (first | (k_unfold; (try dsimp only)) | (k_end; wrow_close) | walk1 | (dsimp only; walk1) | (leave1; walk_say "STEP leave1"; try dsimp only) | fail "no step"))
    · rename (_ == Txt.lower (tx k)) = true => hq
      rw [hlp, hlk, tx_beq] at hq
      refine hret _ _ _ _ (by assumption) (cb_drop (by assumption) fun p h9 => List.mem_cons_of_mem _ h9) ⟨rfl, ?_⟩
      rw [getF_at hP hpi (of_decide_eq_true hq)]
      exact ⟨t2, rfl⟩
    · rename (_ == Txt.lower (tx k)) = false => hq
      rw [hlp, hlk, tx_beq] at hq
      refine endJ_same (by assumption) (by assumption) hoff ?hz ?hP
      case hz => (intro z h3; simp only [List.contains_cons, List.contains_nil, Bool.or_false, Bool.or_eq_false_iff, beq_eq_false_iff_ne, ne_eq] at h3; simp [h3])
      case hP =>
        intro j p hj hp
        rcases Nat.lt_succ_iff_lt_or_eq.mp hj with h9 | rfl
        · exact hP j p h9 hp
        · rw [hpi] at hp; cases hp; exact of_decide_eq_false hq
end
end
section
local macro_rules | `(tactic| walk_at "pad") => `(tactic| fail)
open PySem PySem.W PyProof.Rows


local macro_rules | `(tactic| walk_at "CompEnd") => `(tactic| refine Hold.out ?_)
section
variable (w : World) (loose : List Str) (mean : ExcName → Option Value) (mg mb : Str → Option Value) (news : List (Addr × Obj))
theorem keys_ok (x dx : Addr) (hs : Int) (tk : Tok) (nd : Nat) (lp : Addr) (vs : List Value) (nn : Nat) (ps : List PT) (H : HdAt 221 news x dx hs tk nd lp vs nn ps) (hl : ps.length ≤ 1000) :
  Con w loose mean mg mb 173 news [.ref x] 2 (fun v n' => ∃ l vs', v = .ref l ∧ n' = (l, listOf vs'.toArray vs'.length) :: news ∧ (∀ p ∈ news, p.1 ≠ l) ∧ DatAll news vs' (ps.map fun p => Dat.str (tx p.1))) := by
  obtain ⟨hm1, hm2, hm3, hps⟩ := H
  have hlen : vs.length = ps.length := by rw [hps.length, List.length_map]
  unfold Con
  k_fill
  intro dp un gd cn cs a ccd cl outer A₀ base h₀ L m s Q E B F X N T hk hd hu hret
  k_with_none
  w_strict (refine wpAny_call ?_; k_dflt cell_enter; repeat' ((fail_if_success (with_reducible show wpAny _ _ (eval (Expr.ListComp _ _ _ _) _) _ _ _)); first | (k_unfold; (try dsimp only)) | (k_end; wrow_close) | walk1 | (dsimp only; walk1) | (leave1; walk_say "STEP leave1"; try dsimp only) | fail "no step"))
  refine PyProof.Rows.LCp.ListComp_P (F₀ := by k_asm) (by with_unfolding_all rfl) (by decide) (by rfl) (by decide) (by rfl) (by rfl) (by decide) ?_
  w_strict (repeat' ((fail_if_success (with_reducible show PyProof.Rows.LCp.SrcLP _ _ _ _ _ _ _ _ _ _ _ _ _ _ _)); first | (k_unfold; (try dsimp only)) | (k_end; wrow_close) | walk1 | (dsimp only; walk1) | (leave1; walk_say "STEP leave1"; try dsimp only) | fail "no step"))
  refine PyProof.Rows.LCp.SrcLP.ledger (by rfl) (by k_asm) (by k_asm) hm3 (by rw [List.size_toArray, sizeLine_eq, hlen]; omega) ?_
  intro g2
  refine compP_J (fun i ys n' => n' = news ∧ DatAll news ys ((ps.take i).map fun p => Dat.str (tx p.1))) ?turn ?fin vs.toArray.size 0 [] news (Nat.zero_add _) ⟨rfl, .nil⟩
  case fin =>
    rintro ys n' ⟨rfl, hys⟩
    rw [show vs.toArray.size = ps.length from by simp [hlen], List.take_length] at hys
    unfold PyProof.Rows.LCg.FinE
    intro D h' tk' F' N' o1
    k_unmd
    try k_fold
    try dsimp only
    w_strict (repeat' (first | (k_unfold; (try dsimp only)) | (k_end; wrow_close) | walk1 | (dsimp only; walk1) | (leave1; walk_say "STEP leave1"; try dsimp only) | fail "no step"))
    exact hret _ _ _ _ (by assumption) (by assumption) ⟨D, ys, rfl, rfl, off1_mem o1, hys⟩
  case turn =>
    rintro i ys n' hi ⟨rfl, hys⟩ v hv
    have hi' : i < ps.length := by simpa [hlen] using hi
    obtain ⟨v2, hv2, hd⟩ := hps.get (k := i) (by rw [List.length_map]; exact hi')
    have hv' : vs[i]? = some v := by simpa using hv
    rw [hv'] at hv2
    cases hv2
    rw [List.getElem_map] at hd
    obtain ⟨T, t1, t2, nT, rfl, hT⟩ := pair_at hd
    refine ⟨T, _, _, _, nT, rfl, hT, rfl, rfl, ?_⟩
    intro I oI C oC D m₂ h tk' E' hC hx1 hx2 F' N' off ne
    k_unmd
    try k_fold
    try dsimp only
    w_strict (repeat' (first | (k_unfold; (try dsimp only)) | (k_end; wrow_close) | walk1 | (dsimp only; walk1) | (leave1; walk_say "STEP leave1"; try dsimp only) | fail "no step"))
    refine compEnd_same (by assumption) (by assumption) off (.inr ⟨_, hm3, rfl, _, rfl⟩) ⟨rfl, ?_⟩
    rw [List.take_add_one, List.getElem?_eq_getElem hi', List.map_append]
    exact hys.append (.one (.str _ _))
end
end
section
open PySem PySem.W PyProof.Rows


local macro_rules | `(tactic| walk_at "CompEnd") => `(tactic| refine Hold.out ?_)
local macro_rules | `(tactic| walk_at "mine conv") => `(tactic| (k_here; (with_reducible show wpAny _ _ (call (Value.ref 120) [_, Value.str _ _] _) _ _ _); k_dflt (refine' ConK.use (conv_ok _ _ _ _ _ _ _ _ _ _ ?c1 ?c2) ?k1 ?k2 ?k3 ?k4 ?k5 ?kK ?kd ?ku ?kr); (case k1 => k_asm); (case k2 => k_asm); (case k3 => k_asm); (case k4 => k_asm); (case k5 => k_asm); (case kK => first | exact rfl | assumption); (case kd => ktr_room); (case ku => ktr_units); (case c1 => assumption); (case c2 => assumption); intro v9 n9 h9 tk9 F9 N9 P9; (obtain ⟨e9, f9⟩ := P9); (replace e9 := e9.symm); (subst e9); (subst f9); (try dsimp only); (try k_fold)))
local macro_rules | `(tactic| walk_at "call ref") => `(tactic| walk_at "mine conv")
local macro_rules | `(tactic| walk_at "subscriptTail") => `(tactic| (k_here; (with_reducible show wpAny _ _ (subscriptTail _ _ (Value.ref _) (Value.int _ _)) _ _ _); (with_unfolding_all refine' kim_tup (j := 0) (l := [_, _]) ?k1 ?k2 ?k3 ?k4 ?k5 ?k6 ?k7 ?k8 ?_); (case k1 => k_asm); (case k2 => k_dflt k_mem); (case k3 => with_unfolding_all rfl); (case k4 => with_unfolding_all rfl); (case k5 => decide); (case k6 => decide); (case k7 => with_unfolding_all rfl); (case k8 => with_unfolding_all rfl); (try dsimp only); (try k_fold)))
theorem offC {news : List (Addr × Obj)} {L : Addr} (h : ∀ p ∈ news, p.1 < L) : ∀ p ∈ news, p.1 ≠ L + 1 := fun p hp e => by
  have h1 : @LT.lt Nat _ p.1 L := h p hp
  have h2 : @Eq Nat p.1 (L + 1) := e
  omega
local macro_rules | `(tactic| k_all) => `(tactic| exact offC (by assumption))
section
variable (w : World) (loose : List Str) (mean : ExcName → Option Value) (mg mb : Str → Option Value) (news : List (Addr × Obj))
theorem del_ok (x dx : Addr) (hs : Int) (tk : Tok) (nd : Nat) (lp : Addr) (vs : List Value) (nn : Nat) (ps : List PT) (k : List Nat) (t : Tok)
  (hm1 : (x, instObj 221 dx) ∈ news) (hm2 : (dx, dictOf [⟨hs, .str (Str.ofString "_headers") tk, .ref lp⟩] nd) ∈ news) (base' : List (Addr × Obj)) (hsub : ∀ p ∈ base', p ∈ news) (hps : DatAll base' vs (ps.map pairD)) (hoff : ∀ p ∈ news, p.1 ≠ lp)
  (hl : ps.length ≤ 1000) (hk1 : k.length ≤ 1000) (hk2 : ∀ c ∈ k, 32 ≤ c ∧ c < 127) (ha : ∀ p ∈ ps, Asc p.1 ∧ p.1.length ≤ 1000) :
  Con w loose mean mg mb 139 ((lp, listOf vs.toArray nn) :: news) [.ref x, .str (tx k) t] 2 (fun v n' => v = .none ∧ ∃ vs' nn', n' = (lp, listOf vs'.toArray nn') :: news ∧ DatAll base' vs' ((delF ps k).map pairD)) := by
  have hlen : vs.length = ps.length := by rw [hps.length, List.length_map]
  have hka : Asc k := fun c h9 => Nat.lt_of_lt_of_le (hk2 c h9).2 (by omega)
  have hlk := lower_tx hka
  have hc1 : (Txt.lower (tx k)).length ≤ 1000000 := by rw [hlk, tx_len, List.length_map]; omega
  have hc2 : Clean (Txt.lower (tx k)).cps := by
    rw [hlk]
    intro c hc
    rw [tx_cps] at hc
    obtain ⟨b, hb, rfl⟩ := List.mem_map.mp hc
    have := hk2 b hb
    unfold lo; split <;> omega
  have hkl : (tx k).length ≤ 1000 := by rw [tx_len]; exact hk1
  unfold Con
  k_fill
  intro dp un gd cn cs a ccd cl outer A₀ base h₀ L m s Q E B F X N T hk hd hu hret
  k_with_none
  w_strict (refine wpAny_call ?_; k_dflt (refine' code_defC ?k1 ?k2 ?k3 ?k4 ?k5 ?kA ?kF ?kK ?k6 ?k7 ?k8 ?k9 ?kB ?kD ?_ ?c2 ?c3 ?c4; (case kA => exact rfl); (case kF => exact rfl); (case kK => assumption); (case k1 => k_asm); (case k2 => k_asm); (case k3 => k_asm); (case k4 => k_asm); (case k5 => k_asm); (case k6 => k_is); (case k7 => k_is); (case k8 => ktr_room); (case k9 => first | exact BindsTo.of_eq rfl | exact binds_K (by k_in) rfl (by k_is) rfl rfl rfl); (case kB => exact rfl); (case kD => decide +kernel); (case c2 => exact rfl); (case c3 => exact rfl); (case c4 => exact rfl); k_whole; intro g' L' h' tk' cells' FG' F' N' Y' B' X' T' l1; k_cells Y'; (try simp only [List.cons_append, List.nil_append] at N'); (try dsimp only); (try k_lift B'); (try k_fold)); repeat' ((fail_if_success (with_reducible show wpAny _ _ (eval (Expr.ListComp _ _ _ _) _) _ _ _)); first | (k_unfold; (try dsimp only)) | (k_end; wrow_close) | walk1 | (dsimp only; walk1) | (leave1; walk_say "STEP leave1"; try dsimp only) | fail "no step"))
  refine PyProof.Rows.LCt.ListComp_T (F₀ := by k_asm) (by with_unfolding_all rfl) (by decide) (by rfl) (by decide) (by rfl) ?_
  w_strict (repeat' ((fail_if_success (with_reducible show PyProof.Rows.LCt.CompSrcT _ _ _ _ _ _ _ _ _ _ _ _ _ _ _)); first | (k_unfold; (try dsimp only)) | (k_end; wrow_close) | walk1 | (dsimp only; walk1) | (leave1; walk_say "STEP leave1"; try dsimp only) | fail "no step"))
  refine PyProof.Rows.LCt.CompSrcT.ledger (by rfl) (by k_asm) (by k_asm) (List.Mem.tail _ (List.Mem.head _)) (by rw [List.size_toArray, sizeLine_eq, hlen]; omega) ?_
  intro g2
  rename News _ _ _ _ => lN
  rename _ = Data.cell _ => hcell
  refine compT_J (fun i ys n' => n' = _ ∧ DatAll base' ys ((delF (ps.take i) k).map pairD)) ?turn ?fin vs.toArray.size 0 [] _ (Nat.zero_add _) ⟨rfl, .nil⟩
  case fin =>
    rintro ys n' ⟨rfl, hys⟩
    rw [show vs.toArray.size = ps.length from by simp [hlen], List.take_length] at hys
    unfold PyProof.Rows.LCg.FinE
    intro D h' tk' F' N' o1
    k_unmd
    try k_fold
    try dsimp only
    w_strict (repeat' (first | (k_unfold; (try dsimp only)) | (k_end; wrow_close) | walk1 | (dsimp only; walk1) | (leave1; walk_say "STEP leave1"; try dsimp only) | fail "no step"))
    have hD := off1_mem o1
    have hDl : @Ne Nat D lp := fun e => hD _ (List.Mem.tail _ (List.Mem.head _)) e.symm
    have hl1 : @LT.lt Nat _ lp L' := l1 _ (List.Mem.head _)
    have hcl : @Ne Nat (L' + 1) lp := by intro e; omega
    have hdl : (delF ps k).length ≤ ps.length := List.length_filter_le _ _
    have hyl : ys.length = (delF ps k).length := by rw [hys.length, List.length_map]
    refine setAll_K (r := D) (l := lp) (its := vs) (new := ys) (n := nn) (F := by k_asm) (N := by assumption) (hs := rfl) (e := rfl) (List.Mem.head _) (Upd.tail hDl (Upd.tail hcl (Upd.head hoff))) hDl (by omega) (by omega) ?_
    intro h5 F5 N5
    try k_fold
    try dsimp only
    w_strict (repeat' (first | (k_unfold; (try dsimp only)) | (k_end; wrow_close) | walk1 | (dsimp only; walk1) | (leave1; walk_say "STEP leave1"; try dsimp only) | fail "no step"))
    exact hret _ _ _ _ (by assumption) (cb_drop (by assumption) fun p h9 => List.mem_cons_of_mem _ (List.mem_cons_of_mem _ h9)) ⟨rfl, ys, _, rfl, hys⟩
  case turn =>
    rintro i ys n' hi ⟨rfl, hys⟩ v I oI C oC D m₂ h tk' E' hv hC hx F' N' off ne
    try dsimp only at hv
    have hi' : i < ps.length := by simpa [hlen] using hi
    obtain ⟨v2, hv2, hd⟩ := hps.get (k := i) (by rw [List.length_map]; exact hi')
    have hv' : vs[i]? = some v := by simpa using hv
    rw [hv'] at hv2
    cases hv2
    rw [List.getElem_map] at hd
    obtain ⟨T, t1, t2, nT, rfl, hT⟩ := pair_at hd
    replace hT := hsub _ hT
    have htk : ps.take (i + 1) = ps.take i ++ [ps[i]] := by rw [List.take_add_one, List.getElem?_eq_getElem hi']; rfl
    obtain ⟨ha1, ha2⟩ := ha (ps[i]'hi') (List.getElem_mem hi')
    have hlp := lower_tx ha1
    have hll : (tx (ps[i]'hi').1).length ≤ 1000 := by rw [tx_len]; exact ha2
    k_unmd
    try k_fold
    try dsimp only
    w_strict (repeat' (first | (k_unfold; (try dsimp only)) | (k_end; wrow_close) | walk1 | (dsimp only; walk1) | (leave1; walk_say "STEP leave1"; try dsimp only) | fail "no step"))
    · rename _ = true => hq
      rw [hlp, hlk] at hq
      refine compEnd_same (by assumption) (by assumption) off (.inr ⟨_, List.Mem.tail _ (List.Mem.head _), rfl, _, rfl⟩) ⟨rfl, ?_⟩
      have hne : ps[i].1.map lo ≠ k.map lo := by
        intro e
        rw [e] at hq
        simp at hq
      have : delF (ps.take (i + 1)) k = delF (ps.take i) k ++ [ps[i]] := by unfold delF; rw [htk, List.filter_append]; simp [hne]
      rw [this, List.map_append]
      exact hys.append (.one hd)
    · rename _ = false => hq
      rw [hlp, hlk] at hq
      refine compEnd_same (by assumption) (by assumption) off (.inr ⟨_, List.Mem.tail _ (List.Mem.head _), rfl, _, rfl⟩) ⟨rfl, ?_⟩
      have hne : ps[i].1.map lo = k.map lo := by
        have h8 := tx_beq (ps[i].1.map lo) (k.map lo)
        simp at hq
        rw [hq] at h8
        simpa using h8
      have : delF (ps.take (i + 1)) k = delF (ps.take i) k := by unfold delF; rw [htk, List.filter_append]; simp [hne]
      rw [this]
      exact hys
end
end
section
open PySem PySem.W PyProof.Rows


local macro_rules | `(tactic| walk_at "CompEnd") => `(tactic| refine Hold.out ?_)
local macro_rules | `(tactic| walk_at "mine conv") => `(tactic| (k_here; (with_reducible show wpAny _ _ (call (Value.ref 120) [_, Value.str _ _] _) _ _ _); k_dflt (refine' ConK.use (conv_ok _ _ _ _ _ _ _ _ _ _ ?c1 ?c2) ?k1 ?k2 ?k3 ?k4 ?k5 ?kK ?kd ?ku ?kr); (case k1 => k_asm); (case k2 => k_asm); (case k3 => k_asm); (case k4 => k_asm); (case k5 => k_asm); (case kK => first | exact rfl | assumption); (case kd => ktr_room); (case ku => ktr_units); (case c1 => assumption); (case c2 => assumption); intro v9 n9 h9 tk9 F9 N9 P9; (obtain ⟨e9, f9⟩ := P9); (replace e9 := e9.symm); (subst e9); (subst f9); (try dsimp only); (try k_fold)))
local macro_rules | `(tactic| walk_at "call ref") => `(tactic| walk_at "mine conv")
local macro_rules | `(tactic| walk_at "subscriptTail") => `(tactic| (k_here; (with_reducible show wpAny _ _ (subscriptTail _ _ (Value.ref _) (Value.int _ _)) _ _ _); (with_unfolding_all refine' kim_tup (j := 0) (l := [_, _]) ?k1 ?k2 ?k3 ?k4 ?k5 ?k6 ?k7 ?k8 ?_); (case k1 => k_asm); (case k2 => k_dflt k_mem); (case k3 => with_unfolding_all rfl); (case k4 => with_unfolding_all rfl); (case k5 => decide); (case k6 => decide); (case k7 => with_unfolding_all rfl); (case k8 => with_unfolding_all rfl); (try dsimp only); (try k_fold)))
local macro_rules | `(tactic| k_all) => `(tactic| assumption)
local macro_rules | `(tactic| walk_at "mine use 1") => `(tactic| (k_here; (with_reducible show wpAny _ _ (call (Value.ref 139) [Value.ref _, Value.str _ _]) _ _ _); k_dflt ((refine' Con.use (del_ok _ _ _ _ _ _ _ _ _ _ _ _ _ _ _ _ _ ?c1 ?c2 _ ?c9 ?c3 ?c4 ?c5 ?c6 ?c7 ?c8) ?k1 ?k2 ?k3 ?k4 ?k5 ?kK ?kd ?ku ?kr); (case k1 => k_asm); (case k2 => k_asm); (case k3 => k_asm); (case k4 => k_asm); (case k5 => k_asm); (case kK => first | exact rfl | assumption); (case kd => ktr_room); (case ku => ktr_units); (case c1 => assumption); (case c2 => assumption); (case c3 => assumption); (case c9 => assumption); (case c4 => assumption); (case c5 => assumption); (case c6 => assumption); (case c7 => assumption); (case c8 => assumption); intro v9 n9 h9 tk9 F9 N9 P9; (obtain ⟨f9, vs9, nn9, e9, I9⟩ := P9); (subst f9); (subst e9); (have hl9 : vs9.length ≤ 1000 := (by rw [I9.length, List.length_map]; exact Nat.le_trans (List.length_filter_le _ _) (by assumption)))); (try dsimp only); (try k_fold)))
local macro_rules | `(tactic| walk_at "call ref") => `(tactic| walk_at "mine use 1")
section
variable (w : World) (loose : List Str) (mean : ExcName → Option Value) (mg mb : Str → Option Value) (news : List (Addr × Obj))
theorem set_ok (x dx : Addr) (hs : Int) (tk : Tok) (nd : Nat) (lp : Addr) (vs : List Value) (nn : Nat) (ps : List PT) (k y : List Nat) (t u : Tok)
  (hm1 : (x, instObj 221 dx) ∈ news) (hm2 : (dx, dictOf [⟨hs, .str (Str.ofString "_headers") tk, .ref lp⟩] nd) ∈ news) (base' : List (Addr × Obj)) (hsub : ∀ p ∈ base', p ∈ news) (hps : DatAll base' vs (ps.map pairD)) (hoff : ∀ p ∈ news, p.1 ≠ lp)
  (hl : ps.length ≤ 1000) (hk1 : k.length ≤ 1000) (hk2 : ∀ c ∈ k, 32 ≤ c ∧ c < 127) (hy1 : y.length ≤ 1000) (hy2 : ∀ c ∈ y, 32 ≤ c ∧ c < 127) (ha : ∀ p ∈ ps, Asc p.1 ∧ p.1.length ≤ 1000) :
  Con w loose mean mg mb 134 ((lp, listOf vs.toArray nn) :: news) [.ref x, .str (tx k) t, .str (tx y) u] 3 (fun v n' => v = .none ∧ ∃ vs' nn' T oT, n' = (lp, listOf vs'.toArray nn') :: (T, oT) :: news ∧ T ≠ lp ∧ (∀ p ∈ news, p.1 ≠ T) ∧ DatAll ((T, oT) :: base') vs' ((delF ps k ++ [(k, y)]).map pairD)) := by
  have hlen : vs.length = ps.length := by rw [hps.length, List.length_map]
  have hc1 : (tx k).length ≤ 1000000 := by rw [tx_len]; omega
  have hc2 : Clean (tx k).cps := by
    intro c hc
    rw [tx_cps] at hc
    have := hk2 c hc
    omega
  have hc3 : (tx y).length ≤ 1000000 := by rw [tx_len]; omega
  have hc4 : Clean (tx y).cps := by
    intro c hc
    rw [tx_cps] at hc
    have := hy2 c hc
    omega
  have hkl : (tx k).length ≤ 1000 := by rw [tx_len]; exact hk1
  unfold Con
  k_fill
  intro dp un gd cn cs a ccd cl outer A₀ base h₀ L m s Q E B F X N T hk hd hu hret
  k_with_none
  w_strict (refine wpAny_call ?_; k_dflt cell_enter; repeat' (first | (k_unfold; (try dsimp only)) | (k_end; wrow_close) | walk1 | (dsimp only; walk1) | (leave1; walk_say "STEP leave1"; try dsimp only) | fail "no step"))
  rename _ ∧ AllLt _ _ => l1
  rename DatAll base' _ _ => I9
  obtain ⟨l1a, l1b⟩ := l1
  rename_i V9 n9 hl9 _ _ _ _ D9 _ _ F9 N9 kF kN Tc kX
  refine hret _ _ _ _ (by assumption) (cb_drop (by assumption) ?hp) ⟨rfl, V9 ++ [Value.ref D9], n9 + 1, D9, { cls := .type "tuple", data := .seq [Value.str (tx k) t, Value.str (tx y) u].toArray 0 }, rfl, ?_, ?_, ?_⟩
  case hp =>
    intro p hp
    rcases List.mem_cons.mp hp with rfl | hp
    · refine List.mem_cons_of_mem _ ?_
      rw [← List.push_toArray]
      exact List.Mem.head _
    · rcases List.mem_cons.mp hp with rfl | hp
      · exact List.Mem.head _
      · exact List.mem_cons_of_mem _ (List.mem_cons_of_mem _ hp)
  · exact Nat.ne_of_gt l1a
  · exact allLt_ne l1b
  · rw [List.map_append]
    exact (DatAll.mono (fun p hp => List.mem_cons_of_mem _ hp) I9).append (.one (.tuple (List.Mem.head _) (.cons (.str _ _) (.one (.str _ _)))))
end
end
section
open PySem PySem.W PyProof.Rows


local macro_rules | `(tactic| walk_at "mine use 1") => `(tactic| (k_here; (with_reducible show wpAny _ _ (call (Value.ref 168) [Value.ref _, Value.str _ _]) _ _ _); k_dflt ((refine' Con.use (get_ok _ _ _ _ _ _ _ _ _ _ _ _ _ _ _ _ _ ?c1 ?c2 ?c3 ?c4) ?k1 ?k2 ?k3 ?k4 ?k5 ?kK ?kd ?ku ?kr); (case k1 => k_asm); (case k2 => k_asm); (case k3 => k_asm); (case k4 => k_asm); (case k5 => k_asm); (case kK => first | exact rfl | assumption); (case kd => ktr_room); (case ku => ktr_units); (case c1 => assumption); (case c2 => assumption); (case c3 => assumption); (case c4 => assumption); intro v9 n9 h9 tk9 F9 N9 P9; (obtain ⟨e9, f9⟩ := P9); (replace e9 := e9.symm); (subst e9)); (try dsimp only); (try k_fold)))
local macro_rules | `(tactic| walk_at "call ref") => `(tactic| walk_at "mine use 1")
section
variable (w : World) (loose : List Str) (mean : ExcName → Option Value) (mg mb : Str → Option Value) (news : List (Addr × Obj))
theorem getitem_ok (x dx : Addr) (hs : Int) (tk : Tok) (nd : Nat) (lp : Addr) (vs : List Value) (nn : Nat) (ps : List PT) (k : List Nat) (t : Tok) (H : HdAt 221 news x dx hs tk nd lp vs nn ps) (hk1 : k.length ≤ 1000) (hk2 : ∀ c ∈ k, 32 ≤ c ∧ c < 127) (ha : ∀ p ∈ ps, Asc p.1 ∧ p.1.length ≤ 1000) :
  Con w loose mean mg mb 146 news [.ref x, .str (tx k) t] 3 (fun v n' => n' = news ∧ match getF ps k with | some y => ∃ u, v = .str (tx y) u | none => v = .none) := by
  have hm1 := H.inst
  have hm2 := H.dict
  have hkl : (tx k).length ≤ 1000 := by rw [tx_len]; exact hk1
  unfold Con
  k_fill
  intro dp un gd cn cs a ccd cl outer A₀ base h₀ L m s Q E B F X N T hk hd hu hret
  k_with_none
  w_strict (refine wpAny_call ?_; k_dflt cell_enter; repeat' (first | (k_unfold; (try dsimp only)) | (k_end; wrow_close) | walk1 | (dsimp only; walk1) | (leave1; walk_say "STEP leave1"; try dsimp only) | fail "no step"))
  refine hret _ _ _ _ (by assumption) (by assumption) ⟨rfl, by assumption⟩
end
end
section
local macro_rules | `(tactic| walk_at "pad") => `(tactic| fail)
open PySem PySem.W PyProof.Rows


theorem units_make (A : Around) (C : Addr) (p : List Value) : (A.under (.builtin "type.__call__" ⟨.ref C :: p, []⟩)).units = A.units + 1 := rfl
local macro_rules | `(tactic| ktr_units) => `(tactic| (have hcL9 := cLine_is; (simp only [units_in1, units_deeper, units_make, Around.mark_units, units_caller]); (try dsimp only [ktrTop] at *); omega))
local macro_rules | `(tactic| walk_at "mine conv") => `(tactic| (k_here; (with_reducible show wpAny _ _ (call (Value.ref 120) [_, Value.str _ _] _) _ _ _); k_dflt (refine' ConK.use (conv_ok _ _ _ _ _ _ _ _ _ _ ?c1 ?c2) ?k1 ?k2 ?k3 ?k4 ?k5 ?kK ?kd ?ku ?kr); (case k1 => k_asm); (case k2 => k_asm); (case k3 => k_asm); (case k4 => k_asm); (case k5 => k_asm); (case kK => first | exact rfl | assumption); (case kd => ktr_room); (case ku => ktr_units); (case c1 => assumption); (case c2 => assumption); intro v9 n9 h9 tk9 F9 N9 P9; (obtain ⟨e9, f9⟩ := P9); (replace e9 := e9.symm); (subst e9); (subst f9); (try dsimp only); (try k_fold)))
local macro_rules | `(tactic| walk_at "call ref") => `(tactic| walk_at "mine conv")
section
variable (w : World) (loose : List Str) (mean : ExcName → Option Value) (mg mb : Str → Option Value) (news : List (Addr × Obj))
theorem hdr_ok (lp : Addr) (vs : List Value) (nn : Nat) (ps : List PT) (hm : (lp, listOf vs.toArray nn) ∈ news) (hps : DatAll news vs (ps.map pairD)) (hl : ps.length ≤ 1000)
  (ha : ∀ p ∈ ps, (p.1.length ≤ 1000 ∧ ∀ c ∈ p.1, 32 ≤ c ∧ c < 127) ∧ (p.2.length ≤ 1000 ∧ ∀ c ∈ p.2, 32 ≤ c ∧ c < 127)) :
  Con w loose mean mg mb 221 news [.ref lp] 3 (fun v n' => ∃ x dx hs tk nd, v = .ref x ∧ n' = (x, instObj 221 dx) :: (dx, dictOf [⟨hs, .str (Str.ofString "_headers") tk, .ref lp⟩] nd) :: news ∧ (∀ p ∈ news, p.1 ≠ x ∧ p.1 ≠ dx) ∧ x ≠ dx) := by
  have hlen : vs.length = ps.length := by rw [hps.length, List.length_map]
  unfold Con
  k_fill
  intro dp un gd cn cs a ccd cl outer A₀ base h₀ L m s Q E B F X N T hk hd hu hret
  k_with_none
  w_strict ((k_dflt (refine' call_cls ?k1 ?k2 ?k3 ?k4 ?k5 ?k6 ?_; (case k1 => k_asm); (case k2 => k_asm); (case k3 => k_asm); (case k4 => k_is); (case k5 => k_is); (case k6 => k_is); k_whole; intro x' d' h' F' N' l1 l2; (try k_lt l1); (try k_lt2 l2); (try k_sweep))); k_dflt (refine' code_def ?k1 ?k2 ?k3 ?k4 ?k5 ?kA ?kF ?kK ?k6 ?k7 ?k8 ?k9 ?kB ?_ ?c2 ?c3 ?c4 ?c5; (case kA => exact rfl); (case kF => exact rfl); (case kK => assumption); (case k1 => k_asm); (case k2 => k_asm); (case k3 => k_asm); (case k4 => k_asm); (case k5 => k_asm); (case k6 => k_is); (case k7 => k_is); (case k8 => ktr_room); (case k9 => exact binds_K (by k_in) rfl (by k_is) rfl rfl rfl); (case c5 => decide); (case kB => exact locs rfl); (case c2 => exact rfl); (case c3 => exact rfl); (case c4 => exact rfl); k_whole; intro g' L' h' FG' F' N' B' X' T'; (try dsimp only); (try k_lift B'); (try k_fold)); repeat' ((fail_if_success (with_reducible show wpAny _ _ (pyIter _) _ _ _)); first | (k_unfold; (try dsimp only)) | (k_end; wrow_close) | walk1 | (dsimp only; walk1) | (leave1; walk_say "STEP leave1"; try dsimp only) | fail "no step"))
  rename Fr _ _ _ _ => lF
  rename News _ _ _ _ => lN
  with_unfolding_all refine' iter_same [Str.ofString "k", Str.ofString "v"] (fun i => True) (by rfl) lF lN (List.Mem.tail _ (List.Mem.tail _ hm)) trivial ?turn ?done
  case done =>
    intro u h tk' hP F N
    clear lF lN
    dsimp only at *
    k_unmd
    try k_fold
    w_strict (repeat' (first | (k_unfold; (try dsimp only)) | (k_end; wrow_close) | walk1 | (dsimp only; walk1) | (leave1; walk_say "STEP leave1"; try dsimp only) | fail "no step"))
    have hx1 : ∀ p ∈ news, @LT.lt Nat _ p.1 d' := l1
    have hx2 : @LT.lt Nat _ d' x' := l2
    exact hret _ _ _ _ (by assumption) (by assumption) ⟨x', d', _, _, _, rfl, rfl, fun p hp => ⟨Nat.ne_of_lt (Nat.lt_trans (hx1 p hp) hx2), Nat.ne_of_lt (hx1 p hp)⟩, Nat.ne_of_gt hx2⟩
  case turn =>
    intro i v u h tk' I oI hv hP hoff F N
    clear lF lN
    dsimp only at *
    have hi : i < ps.length := by rw [← hlen]; exact (List.getElem?_eq_some_iff.mp hv).1
    obtain ⟨v2, hv2, hd⟩ := hps.get (k := i) (by rw [List.length_map]; exact hi)
    rw [hv] at hv2
    cases hv2
    rw [List.getElem_map] at hd
    obtain ⟨T, t1, t2, nT, rfl, hT⟩ := pair_at hd
    obtain ⟨⟨ha1, ha2⟩, ha3, ha4⟩ := ha (ps[i]'hi) (List.getElem_mem hi)
    have hq1 : (tx (ps[i]'hi).1).length ≤ 1000000 := by rw [tx_len]; omega
    have hq2 : (tx (ps[i]'hi).2).length ≤ 1000000 := by rw [tx_len]; omega
    have hq3 : Clean (tx (ps[i]'hi).1).cps := by
      intro c hc
      rw [tx_cps] at hc
      have := ha2 c hc
      omega
    have hq4 : Clean (tx (ps[i]'hi).2).cps := by
      intro c hc
      rw [tx_cps] at hc
      have := ha4 c hc
      omega
    have hTup := News.isTup N (List.mem_cons_of_mem _ (List.mem_cons_of_mem _ (List.mem_cons_of_mem _ hT)))
    k_unmd
    k_fold
    w_strict (repeat' (first | (k_unfold; (try dsimp only)) | (k_end; wrow_close) | walk1 | (dsimp only; walk1) | (leave1; walk_say "STEP leave1"; try dsimp only) | fail "no step"))
    refine endJ_same (by assumption) (by assumption) hoff ?hz trivial
    case hz => (intro z h3; simp only [List.contains_cons, List.contains_nil, Bool.or_false, Bool.or_eq_false_iff, beq_eq_false_iff_ne, ne_eq] at h3; simp [h3])
end
end
section
open PySem PySem.W PyProof.Rows
theorem Con.sub {w : World} {loose : List Str} {mean : ExcName → Option Value} {mg mb : Str → Option Value} {f : Addr} {news : List (Addr × Obj)} {vs : List Value} {D : Nat} {Post Post' : Value → List (Addr × Obj) → Prop}
    (c : Con w loose mean mg mb f news vs D Post) (h : ∀ v n', Post v n' → ∃ n'', (∀ p ∈ n'', p ∈ n') ∧ Post' v n'') : Con w loose mean mg mb f news vs D Post' := by
  intro dp un gd cn cs a ccd cl outer A₀ base h₀ L m s Q E B F X N T hk hd hu ret
  refine c dp un gd cn cs a ccd cl outer A₀ base h₀ L m s Q E B F X N T hk hd hu fun v n' h' tk' F' N' p => ?_
  obtain ⟨n'', hs, p'⟩ := h v n' p
  exact ret v n'' h' tk' F' (fun q hq => N' q (hs q hq)) p'
section
variable (w : World) (loose : List Str) (mean : ExcName → Option Value) (mg mb : Str → Option Value) (news : List (Addr × Obj))
structure Hdr (base news : List (Addr × Obj)) (x dx : Addr) (hs : Int) (tk : Tok) (nd : Nat) (lp : Addr) (vs : List Value) (ps : List PT) : Prop where
  inst : (x, instObj 221 dx) ∈ news
  dict : (dx, dictOf [⟨hs, .str (Str.ofString "_headers") tk, .ref lp⟩] nd) ∈ news
  pairs : DatAll base vs (ps.map pairD)
  sub : ∀ p ∈ base, p ∈ news
  off : ∀ p ∈ news, p.1 ≠ lp
theorem Hdr.mono {base n n' : List (Addr × Obj)} {x dx : Addr} {hs : Int} {tk : Tok} {nd : Nat} {lp : Addr} {vs : List Value} {ps : List PT} (h : Hdr base n x dx hs tk nd lp vs ps) (s : ∀ p ∈ n, p ∈ n') (o : ∀ p ∈ n', p.1 ≠ lp) : Hdr base n' x dx hs tk nd lp vs ps :=
  ⟨s _ h.inst, s _ h.dict, h.pairs, fun p hp => s p (h.sub p hp), o⟩
theorem Hdr.cons {base n : List (Addr × Obj)} {x dx : Addr} {hs : Int} {tk : Tok} {nd : Nat} {lp : Addr} {vs : List Value} {ps : List PT} {l : Addr} {o : Obj} {oL : Obj} (h : Hdr base n x dx hs tk nd lp vs ps) (off : ∀ p ∈ (lp, oL) :: n, p.1 ≠ l) : Hdr base ((l, o) :: n) x dx hs tk nd lp vs ps :=
  h.mono (fun p hp => List.Mem.tail _ hp) fun p hp => by
    rcases List.mem_cons.mp hp with rfl | hp
    · exact fun e => off _ (List.Mem.head _) e.symm
    · exact h.off p hp
theorem Hdr.at {base n : List (Addr × Obj)} {x dx : Addr} {hs : Int} {tk : Tok} {nd : Nat} {lp : Addr} {vs : List Value} {ps : List PT} (h : Hdr base n x dx hs tk nd lp vs ps) (nn : Nat) : HdAt 221 ((lp, listOf vs.toArray nn) :: n) x dx hs tk nd lp vs nn ps :=
  ⟨List.Mem.tail _ h.inst, List.Mem.tail _ h.dict, List.Mem.head _, h.pairs.mono fun _ hp => List.Mem.tail _ (h.sub _ hp)⟩
theorem keysS (x dx : Addr) (hs : Int) (tk : Tok) (nd : Nat) (lp : Addr) (vs : List Value) (nn : Nat) (ps : List PT) (k0 y0 : List Nat) (r : List PT) (base' : List (Addr × Obj)) (H : Hdr base' news x dx hs tk nd lp vs ps) (hl : ps.length ≤ 100) (e : ps = (k0, y0) :: r) :
  Con w loose mean mg mb 173 ((lp, listOf vs.toArray nn) :: news) [.ref x] 2 (fun v n' => ∃ l t0 rv n0, v = .ref l ∧ n' = (lp, listOf vs.toArray nn) :: (l, listOf (Value.str (tx k0) t0 :: rv).toArray n0) :: news ∧ (∀ p ∈ (lp, listOf vs.toArray nn) :: news, p.1 ≠ l)) := by
  refine (keys_ok w loose mean mg mb _ x dx hs tk nd lp vs nn ps (H.at nn) (by omega)).sub ?_
  rintro v n' ⟨l, vs', rfl, rfl, hoff, hd⟩
  subst e
  rw [List.map_cons] at hd
  cases hd with
  | cons h1 h2 =>
    cases h1 with
    | str z t0 =>
      rename_i rv
      refine ⟨_, ?_, l, t0, rv, (Value.str (tx k0) t0 :: rv).length, rfl, rfl, hoff⟩
      intro p hp
      rcases List.mem_cons.mp hp with rfl | hp
      · exact List.Mem.tail _ (List.Mem.head _)
      · rcases List.mem_cons.mp hp with rfl | hp
        · exact List.Mem.head _
        · exact List.Mem.tail _ (List.Mem.tail _ hp)
theorem getitemS (x dx : Addr) (hs : Int) (tk : Tok) (nd : Nat) (lp : Addr) (vs : List Value) (nn : Nat) (ps : List PT) (K : Str) (k y : List Nat) (t : Tok) (base' : List (Addr × Obj)) (H : Hdr base' news x dx hs tk nd lp vs ps) (hK : K = tx k) (ok : OkT k) (hg : getF ps k = some y) (ha : ∀ p ∈ ps, OkT p.1 ∧ OkT p.2) :
  Con w loose mean mg mb 146 ((lp, listOf vs.toArray nn) :: news) [.ref x, .str K t] 3 (fun v n' => n' = (lp, listOf vs.toArray nn) :: news ∧ ∃ u, v = .str (tx y) u) := by
  subst hK
  refine (getitem_ok w loose mean mg mb _ x dx hs tk nd lp vs nn ps k t (H.at nn) (by have := ok.len; omega) ok.cs fun p hp => ⟨(ha p hp).1.asc, by have := (ha p hp).1.len; omega⟩).sub ?_
  rintro v n' ⟨rfl, h⟩
  rw [hg] at h
  exact ⟨_, fun p hp => hp, rfl, h⟩
theorem delS (x dx : Addr) (hs : Int) (tk : Tok) (nd : Nat) (lp : Addr) (vs : List Value) (nn : Nat) (ps : List PT) (K : Str) (k : List Nat) (t : Tok) (base' : List (Addr × Obj)) (H : Hdr base' news x dx hs tk nd lp vs ps) (hK : K = tx k) (ok : OkT k) (hl : ps.length ≤ 100) (ha : ∀ p ∈ ps, OkT p.1 ∧ OkT p.2) :
  Con w loose mean mg mb 139 ((lp, listOf vs.toArray nn) :: news) [.ref x, .str K t] 2 (fun v n' => v = .none ∧ ∃ vs' nn', n' = (lp, listOf vs'.toArray nn') :: news ∧ Hdr base' news x dx hs tk nd lp vs' (delF ps k)) := by
  subst hK
  refine (del_ok w loose mean mg mb news x dx hs tk nd lp vs nn ps k t H.inst H.dict base' H.sub H.pairs H.off (by omega) (by have := ok.len; omega) ok.cs fun p hp => ⟨(ha p hp).1.asc, by have := (ha p hp).1.len; omega⟩).sub ?_
  rintro v n' ⟨rfl, vs', nn', rfl, h⟩
  exact ⟨_, fun p hp => hp, rfl, vs', nn', rfl, H.inst, H.dict, h, H.sub, H.off⟩
theorem setS (x dx : Addr) (hs : Int) (tk : Tok) (nd : Nat) (lp : Addr) (vs : List Value) (nn : Nat) (ps : List PT) (K Y : Str) (k y : List Nat) (t u : Tok) (base' : List (Addr × Obj)) (H : Hdr base' news x dx hs tk nd lp vs ps) (hK : K = tx k) (hY : Y = tx y) (ok : OkT k) (oky : OkT y) (hl : ps.length ≤ 100) (ha : ∀ p ∈ ps, OkT p.1 ∧ OkT p.2) :
  Con w loose mean mg mb 134 ((lp, listOf vs.toArray nn) :: news) [.ref x, .str K t, .str Y u] 3 (fun v n' => v = .none ∧ ∃ vs' nn' T oT, n' = (lp, listOf vs'.toArray nn') :: (T, oT) :: news ∧ (∀ p ∈ news, p.1 ≠ T) ∧ Hdr ((T, oT) :: base') ((T, oT) :: news) x dx hs tk nd lp vs' (delF ps k ++ [(k, y)])) := by
  subst hK hY
  refine (set_ok w loose mean mg mb news x dx hs tk nd lp vs nn ps k y t u H.inst H.dict base' H.sub H.pairs H.off (by omega) (by have := ok.len; omega) ok.cs (by have := oky.len; omega) oky.cs fun p hp => ⟨(ha p hp).1.asc, by have := (ha p hp).1.len; omega⟩).sub ?_
  rintro v n' ⟨rfl, vs', nn', T, oT, rfl, hT, hTn, h⟩
  refine ⟨_, fun p hp => hp, rfl, vs', nn', T, oT, rfl, hTn, List.Mem.tail _ H.inst, List.Mem.tail _ H.dict, h, fun p hp => (List.mem_cons.mp hp).elim (fun e => e ▸ List.Mem.head _) (fun h9 => List.Mem.tail _ (H.sub p h9)), ?_⟩
  intro p hp
  rcases List.mem_cons.mp hp with rfl | hp
  · exact hT
  · exact H.off p hp
end
end
section
open PySem PySem.W PyProof.Rows


local macro_rules | `(tactic| walk_at "CompEnd") => `(tactic| refine Hold.out ?_)
local macro_rules | `(tactic| walk_at "subscriptTail") => `(tactic| (k_here; (with_reducible show wpAny _ _ (subscriptTail _ _ (Value.ref _) (Value.int 0 _)) _ _ _); (with_unfolding_all refine' kim_list (l := _ :: _) ?k1 ?k2 ?k3 ?k4 ?k5 ?k6 ?k7 ?_); (case k1 => k_asm); (case k2 => k_dflt k_mem); (case k3 => with_unfolding_all rfl); (case k4 => with_unfolding_all rfl); (case k5 => decide); (case k6 => decide); (case k7 => with_unfolding_all rfl); (try dsimp only); (try k_fold)))
local macro_rules | `(tactic| walk_at "mine use 1") => `(tactic| (k_here; (with_reducible show wpAny _ _ (call (Value.ref 221) [Value.ref _]) _ _ _); k_dflt ((refine' Con.use (hdr_ok _ _ _ _ _ _ _ _ _ _ ?c1 ?c2 ?c3 ?c4) ?k1 ?k2 ?k3 ?k4 ?k5 ?kK ?kd ?ku ?kr); (case k1 => k_asm); (case k2 => k_asm); (case k3 => k_asm); (case k4 => k_asm); (case k5 => k_asm); (case kK => first | exact rfl | assumption); (case kd => ktr_room); (case ku => ktr_units); (case c1 => k_mem); (case c2 => assumption); (case c3 => assumption); (case c4 => assumption); intro v9 n9 h9 tk9 F9 N9 P9; (obtain ⟨x9, dx9, hs9, tk8, nd9, f9, e9, o9, q9⟩ := P9); (subst f9); (subst e9)); (try dsimp only); (try k_fold)))
local macro_rules | `(tactic| walk_at "call ref") => `(tactic| walk_at "mine use 1")
local macro_rules | `(tactic| walk_at "mine use 2") => `(tactic| (k_here; (with_reducible show wpAny _ _ (call (Value.ref 173) _) _ _ _); k_dflt ((refine' Con.use (keysS _ _ _ _ _ _ _ _ _ _ _ _ _ _ _ _ _ _ _ ?c1 ?c2 ?c3) ?k1 ?k2 ?k3 ?k4 ?k5 ?kK ?kd ?ku ?kr); (case k1 => k_asm); (case k2 => k_asm); (case k3 => k_asm); (case k4 => k_asm); (case k5 => k_asm); (case kK => first | exact rfl | assumption); (case kd => ktr_room); (case ku => ktr_units); (case c1 => assumption); (case c2 => assumption); (case c3 => assumption); intro v9 n9 h9 tk9 F9 N9 P9; (obtain ⟨l9, t9, r9, n8, f9, e9, o9⟩ := P9); (subst f9); (subst e9); (have q9 := o9 _ (List.Mem.tail _ (List.Mem.head _))); (have q8 : @Ne Nat _ _ := q9); (try dsimp only at q8)); (try dsimp only); (try k_fold)))
local macro_rules | `(tactic| walk_at "call ref") => `(tactic| walk_at "mine use 2")
local macro_rules | `(tactic| walk_at "mine use 3") => `(tactic| (k_here; (with_reducible show wpAny _ _ (call (Value.ref 146) [Value.ref _, Value.str _ _]) _ _ _); k_dflt ((refine' Con.use (getitemS _ _ _ _ _ _ _ _ _ _ _ _ _ _ _ _ _ _ _ _ ?c1 ?c2 ?c3 ?c4 ?c5) ?k1 ?k2 ?k3 ?k4 ?k5 ?kK ?kd ?ku ?kr); (case k1 => k_asm); (case k2 => k_asm); (case k3 => k_asm); (case k4 => k_asm); (case k5 => k_asm); (case kK => first | exact rfl | assumption); (case kd => ktr_room); (case ku => ktr_units); (case c1 => first | assumption | exact Hdr.cons (by assumption) (by assumption)); (case c2 => assumption); (case c3 => assumption); (case c4 => assumption); (case c5 => assumption); intro v9 n9 h9 tk9 F9 N9 P9; (obtain ⟨e9, t9, f9⟩ := P9); (replace e9 := e9.symm); (subst e9); (subst f9)); (try dsimp only); (try k_fold)))
local macro_rules | `(tactic| walk_at "call ref") => `(tactic| walk_at "mine use 3")
local macro_rules | `(tactic| walk_at "mine use 4") => `(tactic| (k_here; (with_reducible show wpAny _ _ (call (Value.ref 139) [Value.ref _, Value.str _ _]) _ _ _); k_dflt ((refine' Con.use (delS _ _ _ _ _ _ _ _ _ _ _ _ _ _ _ _ _ _ _ ?c1 ?c2 ?c3 ?c4 ?c5) ?k1 ?k2 ?k3 ?k4 ?k5 ?kK ?kd ?ku ?kr); (case k1 => k_asm); (case k2 => k_asm); (case k3 => k_asm); (case k4 => k_asm); (case k5 => k_asm); (case kK => first | exact rfl | assumption); (case kd => ktr_room); (case ku => ktr_units); (case c1 => first | assumption | exact Hdr.cons (by assumption) (by assumption)); (case c2 => assumption); (case c3 => assumption); (case c4 => assumption); (case c5 => assumption); intro v9 n9 h9 tk9 F9 N9 P9; (obtain ⟨f9, vs9, nn9, e9, I9⟩ := P9); (subst f9); (subst e9)); (try dsimp only); (try k_fold)))
local macro_rules | `(tactic| walk_at "call ref") => `(tactic| walk_at "mine use 4")
local macro_rules | `(tactic| walk_at "mine use 5") => `(tactic| (k_here; (with_reducible show wpAny _ _ (call (Value.ref 134) [Value.ref _, Value.str _ _, Value.str _ _]) _ _ _); k_dflt ((refine' Con.use (setS _ _ _ _ _ _ _ _ _ _ _ _ _ _ _ _ _ _ _ _ _ _ ?c1 ?c2 ?c6 ?c3 ?c7 ?c4 ?c5) ?k1 ?k2 ?k3 ?k4 ?k5 ?kK ?kd ?ku ?kr); (case k1 => k_asm); (case k2 => k_asm); (case k3 => k_asm); (case k4 => k_asm); (case k5 => k_asm); (case kK => first | exact rfl | assumption); (case kd => ktr_room); (case ku => ktr_units); (case c1 => first | assumption | exact Hdr.cons (by assumption) (by assumption)); (case c2 => assumption); (case c6 => assumption); (case c3 => assumption); (case c7 => assumption); (case c4 => assumption); (case c5 => assumption); intro v9 n9 h9 tk9 F9 N9 P9; (obtain ⟨f9, vs9, nn9, T9, oT9, e9, o9, I9⟩ := P9); (subst f9); (subst e9)); (try dsimp only); (try k_fold)))
local macro_rules | `(tactic| walk_at "call ref") => `(tactic| walk_at "mine use 5")
structure RingJ (news : List (Addr × Obj)) (size step : Nat) (x dx : Addr) (hs : Int) (tk : Tok) (nd : Nat) (lp lg : Addr) (i : Nat) (c : (List Value × Nat) × (List Value × Nat) × (List (Addr × Obj)) × List PT × List PT) (nx : List (Addr × Obj)) : Prop where
  nx_eq : nx = (lp, listOf c.1.1.toArray c.1.2) :: (lg, listOf c.2.1.1.toArray c.2.1.2) :: (c.2.2.1 ++ news)
  ring_eq : ringN size step i = c.2.2.2
  hdr : Hdr (c.2.2.1 ++ news) (c.2.2.1 ++ news) x dx hs tk nd lp c.1.1 c.2.2.2.1
  gone : DatAll (c.2.2.1 ++ news) c.2.1.1 (c.2.2.2.2.map pairD)
  offg : ∀ p ∈ c.2.2.1 ++ news, p.1 ≠ lg
  ne : @Ne Nat lp lg
local macro_rules | `(tactic| k_all) => `(tactic| assumption)
section
variable (w : World) (loose : List Str) (mean : ExcName → Option Value) (mg mb : Str → Option Value) (news : List (Addr × Obj))
def ringD (size step : Nat) : Dat := Dat.tuple [Dat.list ((ringN size step (size * step)).2.map pairD), Dat.list []]
theorem ring_ok (size step : Nat) (t u : Tok) (h1 : 1 ≤ size) (h6 : size ≤ 6) (hstep : step = 3 ∨ step = 5) :
  Con w loose mean mg mb 258 news [.int size t, .int step u] 5 (fun v n' => ∃ add, n' = add ++ news ∧ DatIn (add ++ news) v (ringD size step)) := by
  have hst5 : step ≤ 5 := by omega
  have hmul : size * step ≤ 6 * 5 := Nat.mul_le_mul h6 hst5
  have hmul' : (size : Int) * (step : Int) = ((size * step : Nat) : Int) := by omega
  unfold Con
  k_fill
  intro dp un gd cn cs a ccd cl outer A₀ base h₀ L m s Q E B F X N T hk hd hu hret
  k_with_none
  w_strict (refine wpAny_call ?_; k_dflt cell_enter; repeat' ((fail_if_success (with_reducible show wpAny _ _ (eval (Expr.ListComp _ _ _ _) _) _ _ _)); first | (k_unfold; (try dsimp only)) | (k_end; wrow_close) | walk1 | (dsimp only; walk1) | (leave1; walk_say "STEP leave1"; try dsimp only) | fail "no step"))
  refine PyProof.Rows.LCg.ListComp_U (F₀ := by k_asm) (by with_unfolding_all rfl) (by decide) (by rfl) (by decide) (by rfl) ?_
  w_strict (repeat' ((fail_if_success (with_reducible show PyProof.Rows.LCg.CompSrc _ _ _ _ _ _ _ _ _ _ _ _ _ _)); first | (k_unfold; (try dsimp only)) | (k_end; wrow_close) | walk1 | (dsimp only; walk1) | (leave1; walk_say "STEP leave1"; try dsimp only) | fail "no step"))
  rename News _ _ _ _ => lN
  rename Fr _ _ _ _ => lF
  rename IsRange _ _ _ _ _ _ _ _ => rgX
  refine PyProof.Rows.LCg.CompSrc.range (n := size) (by rfl) lF lN rgX (small_one (by omega) (by omega) (by omega) (by omega)) (by exact rangeSize_nat _ _) (by rw [sizeLine_eq]; omega) ?_
  intro g2
  refine compU_J (fun i ys n' => ∃ pl, n' = pl ++ news ∧ DatAll n' ys ((List.range i).map fun j => pairD ([97 + j], []))) ?turn ?fin size 0 [] _ (Nat.zero_add _) ⟨[], rfl, .nil⟩
  case turn =>
    rintro i ys n' hi ⟨pl, rfl, hys⟩ v I oI C oC D m₂ h tk' E' ⟨tv, rfl⟩ hC hx F' N' off ne
    k_unmd
    try k_fold
    try dsimp only
    clear lN lF
    w_strict (repeat' (first | (k_unfold; (try dsimp only)) | (k_end; wrow_close) | walk1 | (dsimp only; walk1) | (leave1; walk_say "STEP leave1"; try dsimp only) | fail "no step"))
    rename _ ∧ _ ∧ _ ∧ AllLt _ _ => l1
    obtain ⟨l1, l2, l3, l4⟩ := l1
    have e1 : ((97 : Int) + (0 + (i : Int))).toNat = 97 + i := by omega
    rename News _ _ _ _ => lN
    rename Fr _ _ _ _ => lF
    rw [e1] at lN
    rename_i T9 _
    have hT1 : @Ne Nat T9 I := Nat.ne_of_gt l1
    have hT2 : @Ne Nat T9 C := Nat.ne_of_gt l2
    have hT3 : @Ne Nat T9 D := Nat.ne_of_gt l3
    refine ⟨_, _, (T9, ({ cls := .type "tuple", data := .seq [Value.str (tx [97 + i]) (tk' + 1 + 1), Value.str (tx []) (tk' + 1 + 1 + 1)].toArray 0 } : Obj)) :: (pl ++ news), rfl, lF, ?_, ⟨⟨hT1, hT2, hT3⟩, off⟩, trivial, _ :: pl, rfl, ?_⟩
    · refine cb_drop lN ?_
      intro p hp
      simp only [List.mem_cons] at hp ⊢
      rcases hp with hp | hp | hp | hp | hp
      · exact .inr (.inl hp)
      · exact .inr (.inr (.inl hp))
      · exact .inr (.inr (.inr (.inl hp)))
      · exact .inl hp
      · exact .inr (.inr (.inr (.inr hp)))
    · rw [List.range_succ, List.map_append]
      exact (hys.mono fun p hp => List.mem_cons_of_mem _ hp).append (.one (.tuple (List.Mem.head _) (.cons (.str _ _) (.one (.str _ _)))))
  case fin =>
    rintro ys n' ⟨pl, rfl, hys⟩
    unfold PyProof.Rows.LCg.FinE
    intro D h' tk' F' N' o1
    k_unmd
    try k_fold
    try dsimp only
    clear lN lF
    w_strict (repeat' (first | (k_unfold; (try dsimp only)) | (k_end; wrow_close) | walk1 | (dsimp only; walk1) | (leave1; walk_say "STEP leave1"; try dsimp only) | fail "no step"))
    k_unmd
    k_unfold
    try dsimp only
    rename News _ _ _ _ => lN
    rename Fr _ _ _ _ => lF
    have hyl : ys.length = size := by rw [hys.length]; simp
    rename_i T1 _ l1 L1 _ l2
    refine kmk_add_lit (its := ys.toArray) (its2 := #[.ref T1]) (zs := ys ++ [.ref T1]) lF lN ⟨_, (lN _ (List.Mem.tail _ (List.Mem.tail _ (List.Mem.head _)))).1, rfl, _, rfl⟩ ⟨_, (lN _ (List.Mem.head _)).1, rfl, _, rfl⟩ rfl ?_ (by rw [sizeLine_eq]; simp; omega)
    intro lp h5 F5 N5 l5
    clear lN lF
    have e1 : ((64 : Int) + (size : Int)).toNat = 64 + size := by omega
    rw [e1] at N5
    have hp1 : DatAll ((L1, listOf #[Value.ref T1] 0) :: (T1, ({ cls := .type "tuple", data := .seq [Value.str (tx [64 + size]) (tk' + 1 + 1), Value.str (tx [32, 48]) (tk' + 1 + 1 + 1)].toArray 0 } : Obj)) :: (D, PyProof.Rows.LCg.lst ys) :: (pl ++ news)) (ys ++ [Value.ref T1]) ((ring0 size).map pairD) := by
      unfold ring0
      rw [List.map_append, List.map_map]
      refine DatAll.append (hys.mono fun p hp => List.mem_cons_of_mem _ (List.mem_cons_of_mem _ (List.mem_cons_of_mem _ hp))) (.one ?_)
      exact .tuple (List.Mem.tail _ (List.Mem.head _)) (.cons (.str _ _) (.one (.str _ _)))
    have hp0 := hp1.mono (news' := (lp, listOf (ys ++ [Value.ref T1]).toArray 0) :: (L1, listOf #[Value.ref T1] 0) :: (T1, ({ cls := .type "tuple", data := .seq [Value.str (tx [64 + size]) (tk' + 1 + 1), Value.str (tx [32, 48]) (tk' + 1 + 1 + 1)].toArray 0 } : Obj)) :: (D, PyProof.Rows.LCg.lst ys) :: (pl ++ news)) fun p hp => List.mem_cons_of_mem _ hp
    have hl0 : (ring0 size).length ≤ 1000 := by unfold ring0; simp; omega
    have ha0 : ∀ p ∈ ring0 size, (p.1.length ≤ 1000 ∧ ∀ c ∈ p.1, 32 ≤ c ∧ c < 127) ∧ (p.2.length ≤ 1000 ∧ ∀ c ∈ p.2, 32 ≤ c ∧ c < 127) := by
      intro p hp
      unfold ring0 at hp
      rcases List.mem_append.mp hp with hp | hp
      · obtain ⟨j, hj, rfl⟩ := List.mem_map.mp hp
        rw [List.mem_range] at hj
        refine ⟨⟨by simp, ?_⟩, by simp, by simp⟩
        intro c hc
        rw [List.mem_singleton.mp hc]
        omega
      · rw [List.mem_singleton.mp hp]
        refine ⟨⟨by simp, ?_⟩, by simp, by simp⟩
        intro c hc
        rw [List.mem_singleton.mp hc]
        omega
    try k_fold
    try dsimp only
    w_strict (repeat' ((fail_if_success (with_reducible show wpAny _ _ (pyIter _) _ _ _)); first | (k_unfold; (try dsimp only)) | (k_end; wrow_close) | walk1 | (dsimp only; walk1) | (leave1; walk_say "STEP leave1"; try dsimp only) | fail "no step"))
    rename News _ _ _ _ => lN
    rename Fr _ _ _ _ => lF
    rename IsRange _ _ _ _ _ _ _ _ => rgY
    rename_i x dx hs tkh nd o9 q9 h3 tk1 lg h2 lg1 h1' FA NA h0 tk0 t1 u1 v1 keepA
    obtain ⟨g1, g2', g3, g4, g5, g6, g7⟩ := lg1
    have hpo : ∀ p ∈ pl ++ news, p.1 ≠ lp := fun p hp => Nat.ne_of_lt (l5 p (List.mem_cons_of_mem _ (List.mem_cons_of_mem _ (List.mem_cons_of_mem _ hp))))
    have hL1 : @LT.lt Nat _ L1 lp := l5 _ (List.Mem.head _)
    have hT1 : @LT.lt Nat _ T1 lp := l5 _ (List.Mem.tail _ (List.Mem.head _))
    have hD1 : @LT.lt Nat _ D lp := l5 _ (List.Mem.tail _ (List.Mem.tail _ (List.Mem.head _)))
    have hlx := o9 _ (List.Mem.head _)
    have hJ0 : RingJ news size step x dx hs tkh nd lp lg 0 ((ys ++ [Value.ref T1], 0), ([], 0), (x, instObj 221 dx) :: (dx, dictOf [⟨hs, .str (Str.ofString "_headers") tkh, .ref lp⟩] nd) :: (L1, listOf #[Value.ref T1] 0) :: (T1, ({ cls := .type "tuple", data := .seq [Value.str (tx [64 + size]) (tk' + 1 + 1), Value.str (tx [32, 48]) (tk' + 1 + 1 + 1)].toArray 0 } : Obj)) :: (D, PyProof.Rows.LCg.lst ys) :: pl, ring0 size, [])
        ((lp, listOf (ys ++ [Value.ref T1]).toArray 0) :: (lg, listOf #[] 0) :: (x, instObj 221 dx) :: (dx, dictOf [⟨hs, .str (Str.ofString "_headers") tkh, .ref lp⟩] nd) :: (L1, listOf #[Value.ref T1] 0) :: (T1, ({ cls := .type "tuple", data := .seq [Value.str (tx [64 + size]) (tk' + 1 + 1), Value.str (tx [32, 48]) (tk' + 1 + 1 + 1)].toArray 0 } : Obj)) :: (D, PyProof.Rows.LCg.lst ys) :: (pl ++ news)) := by
      refine ⟨rfl, rfl, ⟨List.Mem.head _, List.Mem.tail _ (List.Mem.head _), hp1.mono fun p hp => List.mem_cons_of_mem _ (List.mem_cons_of_mem _ hp), fun p hp => hp, ?_⟩, .nil, ?_, Nat.ne_of_lt g3⟩
      · intro p hp
        simp only [List.cons_append, List.mem_cons] at hp
        rcases hp with rfl | rfl | rfl | rfl | rfl | hp
        · exact fun e => hlx.1 e.symm
        · exact fun e => hlx.2 e.symm
        · exact Nat.ne_of_lt hL1
        · exact Nat.ne_of_lt hT1
        · exact Nat.ne_of_lt hD1
        · exact hpo p hp
      · intro p hp
        simp only [List.cons_append, List.mem_cons] at hp
        rcases hp with rfl | rfl | rfl | rfl | rfl | hp
        · exact Nat.ne_of_lt g1
        · exact Nat.ne_of_lt g2'
        · exact Nat.ne_of_lt g4
        · exact Nat.ne_of_lt g5
        · exact Nat.ne_of_lt g6
        · exact allLt_ne g7 p hp
    have lM := cb_drop (news := (lp, listOf (ys ++ [Value.ref T1]).toArray 0) :: (lg, listOf #[] 0) :: (x, instObj 221 dx) :: (dx, dictOf [⟨hs, .str (Str.ofString "_headers") tkh, .ref lp⟩] nd) :: (L1, listOf #[Value.ref T1] 0) :: (T1, ({ cls := .type "tuple", data := .seq [Value.str (tx [64 + size]) (tk' + 1 + 1), Value.str (tx [32, 48]) (tk' + 1 + 1 + 1)].toArray 0 } : Obj)) :: (D, PyProof.Rows.LCg.lst ys) :: (pl ++ news)) lN (by
      intro p hp
      rcases List.mem_cons.mp hp with rfl | hp
      · exact List.Mem.tail _ (List.Mem.tail _ (List.Mem.tail _ (List.Mem.head _)))
      rcases List.mem_cons.mp hp with rfl | hp
      · exact List.Mem.head _
      rcases List.mem_cons.mp hp with rfl | hp
      · exact List.Mem.tail _ (List.Mem.head _)
      rcases List.mem_cons.mp hp with rfl | hp
      · exact List.Mem.tail _ (List.Mem.tail _ (List.Mem.head _))
      exact List.Mem.tail _ (List.Mem.tail _ (List.Mem.tail _ (List.Mem.tail _ hp))))
    rw [hmul'] at rgY
    generalize hps0 : (lp, listOf (ys ++ [Value.ref T1]).toArray 0) :: (lg, listOf #[] 0) :: (x, instObj 221 dx) :: (dx, dictOf [⟨hs, .str (Str.ofString "_headers") tkh, .ref lp⟩] nd) :: (L1, listOf #[Value.ref T1] 0) :: (T1, ({ cls := .type "tuple", data := .seq [Value.str (tx [64 + size]) (tk' + 1 + 1), Value.str (tx [32, 48]) (tk' + 1 + 1 + 1)].toArray 0 } : Obj)) :: (D, PyProof.Rows.LCg.lst ys) :: (pl ++ news) = led0 at lM hJ0
    clear NA FA lN l5 hp0 hp1 o9 keepA g1 g2' g3 g4 g5 g6 g7 hps0 hys l1 l2 hl0 ha0 hpo o1
    with_unfolding_all refine' range_S (n := size * step) (RingJ news size step x dx hs tkh nd lp lg) (fun _ => []) [Str.ofString "name", Str.ofString "heard"] _ (by rfl) rgY (small_one (by omega) (by omega) (by omega) (by omega)) (by simp [Builtin.Range.rangeSize]; omega) lF lM (fun _ h9 => nomatch h9) hJ0 ?turn2 ?done2
    case done2 =>
      rintro ⟨⟨vs, nn⟩, ⟨gv, ng⟩, pool, ps, gs⟩ nx u' h tk9 hJ F9 N9
      obtain ⟨rfl, hr, hH, hG, hoff, hne⟩ := hJ
      dsimp only at *
      clear lF lM
      k_unmd
      try k_fold
      w_strict (repeat' (first | (k_unfold; (try dsimp only)) | (k_end; wrow_close) | walk1 | (dsimp only; walk1) | (leave1; walk_say "STEP leave1"; try dsimp only) | fail "no step"))
      rename_i D9 _ _ _ _ _ _ _ _
      rename News h₀ L _ _ => NN
      have he := ring_end h1 h6 hstep
      rw [hr] at he
      dsimp only at he
      have hv : vs = [] := by
        apply List.eq_nil_of_length_eq_zero
        rw [hH.pairs.length, he]; rfl
      subst hv
      refine hret _ _ _ _ (by assumption) NN ⟨(D9, _) :: (lp, listOf [].toArray nn) :: (lg, listOf gv.toArray ng) :: pool, rfl, ?_⟩
      unfold ringD
      rw [hr]
      refine .tuple (List.Mem.head _) (.cons (.list (List.Mem.tail _ (List.Mem.tail _ (List.Mem.head _))) ?_) (.one (.list (List.Mem.tail _ (List.Mem.head _)) .nil)))
      exact hG.mono fun p hp => List.Mem.tail _ (List.Mem.tail _ (List.Mem.tail _ hp))
    case turn2 =>
      rintro i ⟨⟨vs, nn⟩, ⟨gv, ng⟩, pool, ps, gs⟩ nx tt u' h tk9 own hi hown hJ F9 N9
      obtain ⟨rfl, hr, hH, hG, hoff, hne⟩ := hJ
      dsimp only at *
      clear lF lM
      have hok := ring_ok' h1 h6 hstep hi
      rw [hr] at hok
      obtain ⟨k0, y0, r, y, R⟩ := ringOk_of hok
      have hturn := ring_turn hr R
      obtain ⟨r1, r2, r3, r4, r5, r6, r7, r8⟩ := R
      have hown1 : ∀ p ∈ own, p.1 ≠ lp := fun p hp => hown p hp lp (List.mem_cons_self)
      have hown2 : ∀ p ∈ own, p.1 ≠ lg := fun p hp => hown p hp lg (List.mem_cons_of_mem _ (List.mem_cons_self))
      have hoffG : ∀ p ∈ pool ++ news ++ own, p.1 ≠ lg := fun p hp => (List.mem_append.mp hp).elim (hoff p) (hown2 p)
      have hH1 : Hdr (pool ++ news) ((lg, listOf gv.toArray ng) :: (pool ++ news ++ own)) x dx hs tkh nd lp vs ps := hH.mono (fun p hp => List.Mem.tail _ (List.mem_append.mpr (.inl hp))) fun p hp => by
        rcases List.mem_cons.mp hp with rfl | hp
        · exact hne.symm
        · exact (List.mem_append.mp hp).elim (hH.off p) (hown1 p)
      have hinst := hH1.inst
      have hdict := hH1.dict
      have hsw : Txt.swapcase (tx k0) = tx (k0.map sw) := swap_tx r2.asc
      have hY : tx y ++ Str.ofString " " ++ Str.ofString (toString ((1 : Int) + (i : Int))) = tx (y ++ [32] ++ dec (i + 1)) := by
        rw [dec_of i (by omega), show Str.ofString " " = tx [32] from rfl, tx_app, tx_app]
      have hk0 : (tx k0).length ≤ 900 := by rw [tx_len]; exact r2.len
      have hyl' : (tx y).length ≤ 900 := by
        rw [tx_len]
        have := r4.len
        simp only [List.length_append] at this
        omega
      have hgl : gv.length ≤ 100 := by rw [hG.length, List.length_map]; exact r7
      have hs0 : (0 : Int) < (step : Int) := by omega
      rw [List.cons_append, List.cons_append] at N9
      k_unmd
      k_fold
      w_strict (repeat' (first | (k_unfold; (try dsimp only)) | (k_end; wrow_close) | walk1 | (dsimp only; walk1) | (leave1; walk_say "STEP leave1"; try dsimp only) | fail "no step"))
      · rename_i D9 _ _ l9 t8 rv n8 o9 _ _ _ _ _ _ _ _ _ _ _ t7 _ _ _ _ hq _ _ _ _ V9 n9 H9 D8 _ l1 _ FF NN
        obtain ⟨la, lb, lc, ld⟩ := l1
        have hq' : (i + 1) % step = 0 := by
          have e : (1 + (i : Int)).fmod (step : Int) = ((i + 1 : Nat) : Int) % (step : Int) := by rw [Int.fmod_eq_emod_of_nonneg _ (by omega), show (1 + (i : Int)) = ((i + 1 : Nat) : Int) from by omega]
          rw [e] at hq
          omega
        rw [if_pos hq'] at hturn
        have hYd : tx y ++ Str.ofString " " ++ Str.ofString (toString ((1 : Int) + (i : Int))) = tx (y ++ [32] ++ dec (i + 1)) := hY
        have hD8 := allLt_ne ld
        refine rng_end ((V9, n9), (gv ++ [Value.ref D8], ng + 1), (D8, ({ cls := .type "tuple", data := .seq [Value.str (tx k0) t8, Value.str (tx y ++ Str.ofString " " ++ Str.ofString (toString ((1 : Int) + (i : Int)))) t7].toArray 0 } : Obj)) :: pool, delF ps (k0.map sw), gs ++ [(k0, y ++ [32] ++ dec (i + 1))]) _ FF NN ?hn ?ho ?hoff (fun _ h9 => nomatch h9) ?hr ⟨rfl, hturn, ?hh, ?hg, ?hog, hne⟩
        case hn =>
          intro p hp
          simp only [List.cons_append, List.mem_cons] at hp
          rcases hp with rfl | rfl | rfl | hp
          · exact List.Mem.tail _ (List.Mem.head _)
          · rw [← List.push_toArray]; exact List.Mem.tail _ (List.Mem.tail _ (List.Mem.tail _ (List.Mem.head _)))
          · exact List.Mem.head _
          · exact List.Mem.tail _ (List.Mem.tail _ (List.Mem.tail _ (List.Mem.tail _ (List.mem_append.mpr (.inl hp)))))
        case ho => exact fun p hp => List.Mem.tail _ (List.Mem.tail _ (List.Mem.tail _ (List.Mem.tail _ (List.mem_append.mpr (.inr hp)))))
        case hoff =>
          intro p hp b hb
          obtain ⟨q, hq2, rfl⟩ := List.mem_map.mp hb
          simp only [List.cons_append, List.mem_cons] at hq2
          rcases hq2 with rfl | rfl | rfl | hq2
          · exact hown1 p hp
          · exact hown2 p hp
          · exact hD8 p (List.mem_append.mpr (.inr hp))
          · exact hown p hp _ (List.mem_cons_of_mem _ (List.mem_cons_of_mem _ (List.mem_map.mpr ⟨q, hq2, rfl⟩)))
        case hr => (intro z h1 h2 h3; simp only [List.forall_mem_cons, List.not_mem_nil, false_implies, implies_true, and_true, ne_eq] at h2; simp only [List.contains_cons, List.contains_nil, Bool.or_false, Bool.or_eq_false_iff, beq_eq_false_iff_ne, ne_eq] at h3; simp [kstB, h1, h2, h3])
        case hh =>
          refine ⟨List.Mem.tail _ hH.inst, List.Mem.tail _ hH.dict, H9.pairs.mono fun p hp => List.Mem.tail _ hp, fun p hp => hp, ?_⟩
          intro p hp
          rcases List.mem_cons.mp hp with rfl | hp
          · exact Nat.ne_of_gt la
          · exact hH.off p hp
        case hg =>
          dsimp only
          rw [List.map_append]
          refine (hG.mono fun p hp => List.Mem.tail _ hp).append (.one ?_)
          refine .tuple (List.Mem.head _) (.cons (.str _ _) (.one ?_))
          rw [hYd]
          exact .str _ _
        case hog =>
          intro p hp
          rcases List.mem_cons.mp hp with rfl | hp
          · exact Nat.ne_of_gt lc
          · exact hoff p hp
      · rename_i D9 _ _ l9 t8 rv n8 o9 _ _ _ _ _ _ _ _ _ _ _ t7 _ _ _ _ _ _ hq _ _ _ FF V9 n9 T8 oT8 oo H9 NN
        have hq' : ¬ (i + 1) % step = 0 := by
          have e : (1 + (i : Int)).fmod (step : Int) = ((i + 1 : Nat) : Int) % (step : Int) := by rw [Int.fmod_eq_emod_of_nonneg _ (by omega), show (1 + (i : Int)) = ((i + 1 : Nat) : Int) from by omega]
          rw [e] at hq
          omega
        rw [if_neg hq'] at hturn
        have hT8 : ∀ p ∈ (lg, listOf gv.toArray ng) :: (pool ++ news ++ own), p.1 ≠ T8 := fun p hp => oo p (List.Mem.tail _ hp)
        refine rng_end ((V9, n9), (gv, ng), (T8, oT8) :: pool, delF ps (k0.map sw) ++ [(k0.map sw, y ++ [32] ++ dec (i + 1))], gs) _ FF NN ?hn ?ho ?hoff (fun _ h9 => nomatch h9) ?hr ⟨rfl, hturn, ?hh, ?hg, ?hog, hne⟩
        case hn =>
          intro p hp
          simp only [List.cons_append, List.mem_cons] at hp
          rcases hp with rfl | rfl | rfl | hp
          · exact List.Mem.head _
          · exact List.Mem.tail _ (List.Mem.tail _ (List.Mem.tail _ (List.Mem.head _)))
          · exact List.Mem.tail _ (List.Mem.head _)
          · exact List.Mem.tail _ (List.Mem.tail _ (List.Mem.tail _ (List.Mem.tail _ (List.mem_append.mpr (.inl hp)))))
        case ho => exact fun p hp => List.Mem.tail _ (List.Mem.tail _ (List.Mem.tail _ (List.Mem.tail _ (List.mem_append.mpr (.inr hp)))))
        case hoff =>
          intro p hp b hb
          obtain ⟨q, hq2, rfl⟩ := List.mem_map.mp hb
          simp only [List.cons_append, List.mem_cons] at hq2
          rcases hq2 with rfl | rfl | rfl | hq2
          · exact hown1 p hp
          · exact hown2 p hp
          · exact hT8 p (List.Mem.tail _ (List.mem_append.mpr (.inr hp)))
          · exact hown p hp _ (List.mem_cons_of_mem _ (List.mem_cons_of_mem _ (List.mem_map.mpr ⟨q, hq2, rfl⟩)))
        case hr => (intro z h1 h2 h3; simp only [List.forall_mem_cons, List.not_mem_nil, false_implies, implies_true, and_true, ne_eq] at h2; simp only [List.contains_cons, List.contains_nil, Bool.or_false, Bool.or_eq_false_iff, beq_eq_false_iff_ne, ne_eq] at h3; simp [kstB, h1, h2, h3])
        case hh =>
          refine ⟨List.Mem.tail _ hH.inst, List.Mem.tail _ hH.dict, H9.pairs, fun p hp => hp, ?_⟩
          intro p hp
          rcases List.mem_cons.mp hp with rfl | hp
          · exact H9.off _ (List.Mem.head _)
          · exact hH.off p hp
        case hg => exact hG.mono fun p hp => List.Mem.tail _ hp
        case hog =>
          intro p hp
          rcases List.mem_cons.mp hp with rfl | hp
          · exact fun e => hT8 _ (List.Mem.head _) e.symm
          · exact hoff p hp
end
end
section
open PySem PySem.W PyProof.Rows


local macro_rules | `(tactic| walk_at "call ref") => `(tactic| (k_here; (with_reducible show wpAny _ _ (call (Value.ref _) [Value.int _ _]) _ _ _); k_dflt (refine wpAny_call ?_; (refine' kla_code ?k1 ?k2 ?k3 ?k4 ?k5 ?kA ?kF ?kK ?k6 ?k7 ?k8 ?k9 ?kB ?_ ?c2 ?c3 ?c4 ?c5; (case kA => exact rfl); (case kF => exact rfl); (case kK => first | exact rfl | assumption); (case k1 => k_asm); (case k2 => k_asm); (case k3 => k_asm); (case k4 => k_asm); (case k5 => k_asm); (case k6 => k_mem); (case k7 => exact codeRec_news (by k_asm) (by k_mem) (by assumption) (by assumption)); (case k8 => ktr_room); (case k9 => exact rfl); (case c5 => decide); (case kB => exact locs rfl); (case c2 => exact rfl); (case c3 => exact rfl); (case c4 => exact rfl); k_whole; intro g' L' h' FG' F' N' B' X' T'; (try dsimp only); (try k_lift B'); (try k_fold)))))
/-- a call's contract where a code's table is laid aside -/
def ConKH (w : World) (loose : List Str) (mean : ExcName → Option Value) (mg mb : Str → Option Value) (f : Addr) (news : List (Addr × Obj)) (vs : List Value) (kw : List (Str × Value)) (D : Nat) (Post : Value → List (Addr × Obj) → Prop) : Prop :=
  ∀ (dp un : Nat) (gd : Option (List Code)) (cn : Str) (cs : Scope) (a : Addr) (ccd : Value) (cl : List (Str × Addr)) (outer : List Env) (A₀ : Around) (base h₀ : Heap) (L : Addr) (m : Str → Option Value) (s : Shared) (Q E : Value → Shared → Prop),
    Below A₀ base outer h₀ → Fr h₀ L s.heap m → (Mine.heapK w.params).In h₀ → News h₀ L s.heap news → Top topProg loose mean mg mb h₀ → CodeHd base 262 260 → cs.kind = .function →
    dp + D < recursionLimit → un + 8 * D < cLine → (∀ v news' h' tk', Fr h₀ L h' m → News h₀ L h' news' → Post v news' → Q v { s with heap := h', toks := tk' }) →
      wpAny (model PySem.Challenge.rw_ux0026_01.row.prog w) (ktrTop dp un gd cn cs L a ccd cl outer) (call (.ref f) vs kw) Q E s
theorem ConKH.use {w : World} {loose : List Str} {mean : ExcName → Option Value} {mg mb : Str → Option Value} {f : Addr} {news : List (Addr × Obj)} {vs : List Value} {kw : List (Str × Value)} {D : Nat} {Post : Value → List (Addr × Obj) → Prop}
    {dp un : Nat} {gd : Option (List Code)} {cn : Str} {cs : Scope} {a : Addr} {ccd : Value} {cl : List (Str × Addr)} {outer : List Env} {A₀ : Around} {base h₀ : Heap} {L : Addr} {m : Str → Option Value} {s : Shared} {Q E : Value → Shared → Prop}
    (c : ConKH w loose mean mg mb f news vs kw D Post) (B : Below A₀ base outer h₀) (F : Fr h₀ L s.heap m) (X : (Mine.heapK w.params).In h₀) (N : News h₀ L s.heap news) (T : Top topProg loose mean mg mb h₀) (C : CodeHd base 262 260) (hk : cs.kind = .function)
    (hd : dp + D < recursionLimit) (hu : un + 8 * D < cLine) (ret : ∀ v news' h' tk', Fr h₀ L h' m → News h₀ L h' news' → Post v news' → Q v { s with heap := h', toks := tk' }) :
    wpAny (model PySem.Challenge.rw_ux0026_01.row.prog w) (ktrTop dp un gd cn cs L a ccd cl outer) (call (.ref f) vs kw) Q E s := c _ _ _ _ _ _ _ _ _ _ _ _ _ _ _ _ _ B F X N T C hk hd hu ret
abbrev lamPos : Pos := ⟨181, 41, 181, 82⟩
abbrev lamParams : Arguments := { posonlyargs := [], args := [{ arg := "number", annotation := none, pos := ⟨181, 48, 181, 54⟩ : Arg }], vararg := none, kwonlyargs := [], kw_defaults := [], kwarg := none, defaults := [] }
abbrev lamBody : Expr := Expr.BinOp (left := Expr.Name "number" ⟨181, 56, 181, 62⟩) (op := Operator.Sub)
  (right := Expr.BinOp (left := Expr.Name "size" ⟨181, 65, 181, 69⟩) (op := Operator.Mult)
    (right := Expr.BinOp (left := Expr.Name "step" ⟨181, 73, 181, 77⟩) (op := Operator.Sub) (right := Expr.Constant (Const.int 1) 0 ⟨181, 80, 181, 81⟩) (pos := ⟨181, 73, 181, 81⟩)) (pos := ⟨181, 65, 181, 82⟩)) (pos := ⟨181, 56, 181, 82⟩)
abbrev lamScope : Scope := { kind := ScopeKind.function, names := [(Str.ofString "number", NameKind.local), (Str.ofString "size", NameKind.free), (Str.ofString "step", NameKind.free)], isGenerator := false, isCoroutine := false, more := [] }
abbrev lamQual : Str := Str.ofString "_law_due.<locals>.<lambda>"
theorem keyed_get (ns : List Int) (c : Int) {i : Nat} (h : i < ns.length) : (ns.map fun n => n - c).getD i 0 = ns.getD i 0 - c := by
  simp [List.getD, List.getElem?_eq_getElem h]
section
variable (w : World) (loose : List Str) (mean : ExcName → Option Value) (mg mb : Str → Option Value) (news : List (Addr × Obj))
theorem bis_okK (l : Addr) (vs : List Value) (ns : List Int) (nn : Nat) (tx : Tok) (size step : Nat) (f c' a1 a2 : Addr) (o1 o2 oc : Obj) (cvs : Array Value) (tq t1 t2 : Tok) (pm ctv : Value)
    (hm : (l, listOf vs.toArray nn) ∈ news) (hi : IntsAre vs ns) (hl : ns.length ≤ 1000) (hs6 : size ≤ 6) (hst5 : step ≤ 5)
    (hf : (f, kla_obj (Str.ofString "<lambda>") lamQual lamParams lamBody lamScope [(Str.ofString "step", a2), (Str.ofString "size", a1)] pm c' ctv) ∈ news) (hc : (c', oc) ∈ news) (hd : oc.data = .fields cvs) (hv : cvs[1]? = some (.str lamQual tq))
    (h1 : (a1, o1) ∈ news) (e1 : o1.data = .cell (some (.int size t1))) (h2 : (a2, o2) ∈ news) (e2 : o2.data = .cell (some (.int step t2))) :
  ConKH w loose mean mg mb 56 news [.ref l, .int 0 tx] [(Str.ofString "key", .ref f)] 3 (fun v n' => n' = news ∧ ∃ tk, v = .int (bisR (ns.map fun n => n - (size : Int) * ((step : Int) - 1)) 0 0 ns.length : Nat) tk) := by
  have hmul : size * step ≤ 6 * 5 := Nat.mul_le_mul hs6 hst5
  unfold ConKH
  k_fill
  intro dp un gd cn cs a ccd cl outer A₀ base h₀ L m s Q E B F X N T C hk hd hu hret
  k_with_none
  w_strict (refine wpAny_call ?_; k_dflt (refine' code_def ?k1 ?k2 ?k3 ?k4 ?k5 ?kA ?kF ?kK ?k6 ?k7 ?k8 ?k9 ?kB ?_ ?c2 ?c3 ?c4 ?c5; (case kA => exact rfl); (case kF => exact rfl); (case kK => assumption); (case k1 => k_asm); (case k2 => k_asm); (case k3 => k_asm); (case k4 => k_asm); (case k5 => k_asm); (case k6 => k_is); (case k7 => k_is); (case k8 => ktr_room); (case k9 => (refine' kp_binds ?kx ?ke; (case kx => k_in); (case ke => exact fun _ => rfl))); (case c5 => decide); (case kB => exact locs rfl); (case c2 => exact rfl); (case c3 => exact rfl); (case c4 => exact rfl); k_whole; intro g' L' h' FG' F' N' B' X' T'; (try dsimp only); (try k_lift B'); (try k_fold)); repeat' ((fail_if_success (with_reducible show wpAny _ _ (exec (Stmt.While _ _ _ _) _) _ _ _)); first | (k_unfold; (try dsimp only)) | (k_end; wrow_close) | walk1 | (dsimp only; walk1) | (leave1; walk_say "STEP leave1"; try dsimp only) | fail "no step"))
  rename Fr _ _ _ _ => lF
  rename News _ _ _ _ => lN
  have hkl : (ns.map fun n => n - (size : Int) * ((step : Int) - 1)).length = ns.length := List.length_map _
  generalize hKK : (size : Int) * ((step : Int) - 1) = KK at *
  with_unfolding_all refine' ksw_while (σ := Int × Tok × Int × Tok) (fun _ => news) (fun c => [(Str.ofString "lo", Value.int c.1 c.2.1), (Str.ofString "hi", Value.int c.2.2.1 c.2.2.2)]) (fun _ => True) [Str.ofString "mid"]  (fun c => 0 ≤ c.1 ∧ 0 ≤ c.2.2.1 ∧ c.2.2.1 ≤ ns.length ∧ bisR (ns.map fun n => n - KK) 0 c.1.toNat c.2.2.1.toNat = bisR (ns.map fun n => n - KK) 0 0 ns.length)  (fun c => c.2.2.1.toNat - c.1.toNat) (0, _, ns.length, _) ?cF ?cN trivial ?kk ?kp ?turn (hE := ?hE)
  case cF => exact lF
  case cN => exact lN
  case hE => passes_own
  case kk => kst_all
  case kp => (refine ⟨?_, ?_, ?_, rfl⟩ <;> (dsimp only; omega))
  case turn =>
    rintro ⟨lo, ti, hi', td⟩ u h tk - hI F N
    clear lF lN
    dsimp only at *
    obtain ⟨h0, h1, h2, h3⟩ := hI
    have hmid := fdiv2 h0 h1
    k_unmd
    k_fold
    w_strict (repeat' (first | (k_unfold; (try dsimp only)) | (k_end; wrow_close) | walk1 | (dsimp only; walk1) | (leave1; walk_say "STEP leave1"; try dsimp only) | fail "no step"))
    · rename lo < hi' => hlt
      rename (0 : Int) < _ - _ => hx
      rw [hKK, hmid, ← keyed_get ns KK (by omega)] at hx
      refine' ksw_end (lo, _, (lo + hi').fdiv 2, _) (by assumption) (by assumption) (fun _ h9 => h9) trivial ?kk ?kr ?kp ?km
      case kk => kst_all
      case kr => (intro z h2 h3; simp only [List.forall_mem_cons, List.not_mem_nil, false_implies, implies_true, and_true, ne_eq] at h2; simp only [List.contains_cons, List.contains_nil, Bool.or_false, Bool.or_eq_false_iff, beq_eq_false_iff_ne, ne_eq] at h3; simp [kstB, h2, h3])
      case kp =>
        refine ⟨h0, ?_, ?_, ?_⟩
        · show 0 ≤ (lo + hi').fdiv 2; rw [Int.fdiv_eq_ediv_of_nonneg _ (by decide)]; omega
        · show (lo + hi').fdiv 2 ≤ _; rw [Int.fdiv_eq_ediv_of_nonneg _ (by decide)]; omega
        · show bisR _ 0 lo.toNat ((lo + hi').fdiv 2).toNat = _
          rw [hmid, ← bisR_lt _ 0 (by omega) hx, h3]
      case km => show ((lo + hi').fdiv 2).toNat - lo.toNat < hi'.toNat - lo.toNat; rw [hmid]; omega
    · rename lo < hi' => hlt
      rename ¬ (0 : Int) < _ - _ => hx
      rw [hKK, hmid, ← keyed_get ns KK (by omega)] at hx
      have hm1 : ((lo + hi').fdiv 2 + 1).toNat = (lo.toNat + hi'.toNat) / 2 + 1 := by rw [Int.fdiv_eq_ediv_of_nonneg _ (by decide)]; omega
      refine' ksw_end ((lo + hi').fdiv 2 + 1, _, hi', _) (by assumption) (by assumption) (fun _ h9 => h9) trivial ?kk ?kr ?kp ?km
      case kk => kst_all
      case kr => (intro z h2 h3; simp only [List.forall_mem_cons, List.not_mem_nil, false_implies, implies_true, and_true, ne_eq] at h2; simp only [List.contains_cons, List.contains_nil, Bool.or_false, Bool.or_eq_false_iff, beq_eq_false_iff_ne, ne_eq] at h3; simp [kstB, h2, h3])
      case kp =>
        refine ⟨?_, h1, h2, ?_⟩
        · show 0 ≤ (lo + hi').fdiv 2 + 1; rw [Int.fdiv_eq_ediv_of_nonneg _ (by decide)]; omega
        · show bisR _ 0 ((lo + hi').fdiv 2 + 1).toNat hi'.toNat = _
          rw [hm1, ← bisR_ge _ 0 (by omega) hx, h3]
      case km => show hi'.toNat - ((lo + hi').fdiv 2 + 1).toNat < hi'.toNat - lo.toNat; rw [hm1]; omega
    · rename ¬ lo < hi' => hlt
      refine hret _ _ _ _ (by assumption) (by assumption) ⟨rfl, ti, ?_⟩
      rw [← h3, bisR_end _ 0 (by omega), Int.toNat_of_nonneg h0]
end
end
section
open PySem PySem.W PyProof.Rows
theorem bis_ok4z (w : World) (loose : List Str) (mean : ExcName → Option Value) (mg mb : Str → Option Value) (news : List (Addr × Obj)) (l : Addr) (vs : List Value) (ns : List Int) (nn : Nat) (x : Int) (tx : Tok) (tlo : Tok) (hi0 : Nat) (thi : Tok) (hm : (l, listOf vs.toArray nn) ∈ news) (hi : IntsAre vs ns) (hl : ns.length ≤ 1000) (hh : hi0 ≤ ns.length) :
  Con w loose mean mg mb 56 news [.ref l, .int x tx, .int 0 tlo, .int hi0 thi] 1 (fun v n' => n' = news ∧ ∃ tk, v = .int (bisR ns x 0 hi0 : Nat) tk) := bis_ok4 w loose mean mg mb news l vs ns nn x tx 0 tlo hi0 thi hm hi hl hh


local macro_rules | `(tactic| walk_at "CompEnd") => `(tactic| refine Hold.out ?_)
local macro_rules | `(tactic| walk_at "mine rng") => `(tactic| (k_here; (with_reducible show wpAny _ _ (call _ [_, _, _]) _ _ _); (rename Fr _ _ _ _ => F'); (rename News _ _ _ _ => N'); (with_unfolding_all refine range3_rows F' N' (by decide) ?_); intro _ _ _ _ _ _ _ _ _))
local macro_rules | `(tactic| walk_at "call type:range") => `(tactic| walk_at "mine rng")
local macro_rules | `(tactic| walk_at "call builtin:str.upper") => `(tactic| (k_here; (try dsimp only); (refine PyProof.Rows.SCL.upper (Nat.le_of_ble_eq_true rfl) ?_); intro _))
local macro_rules | `(tactic| walk_at "mine use 1") => `(tactic| (k_here; (with_reducible show wpAny _ _ (call (Value.ref 56) [Value.ref _, Value.int _ _]) _ _ _); k_dflt ((refine' Con.use (bis_ok2 _ _ _ _ _ _ _ _ _ _ _ _ ?c1 ?c2 ?c3) ?k1 ?k2 ?k3 ?k4 ?k5 ?kK ?kd ?ku ?kr); (case k1 => k_asm); (case k2 => k_asm); (case k3 => k_asm); (case k4 => k_asm); (case k5 => k_asm); (case kK => first | exact rfl | assumption); (case kd => ktr_room); (case ku => ktr_units); (case c1 => k_mem); (case c2 => assumption); (case c3 => first | assumption | omega); intro v9 n9 h9 tk9 F9 N9 P9; (obtain ⟨e9, t9, f9⟩ := P9); (replace e9 := e9.symm); (subst e9); (subst f9)); (try dsimp only); (try k_fold)))
local macro_rules | `(tactic| walk_at "call ref") => `(tactic| walk_at "mine use 1")
local macro_rules | `(tactic| walk_at "mine use 2") => `(tactic| (k_here; (with_reducible show wpAny _ _ (call (Value.ref 56) [Value.ref _, Value.int _ _, Value.int _ _]) _ _ _); k_dflt ((refine' Con.use (bis_ok3 _ _ _ _ _ _ _ _ _ _ _ _ _ _ ?c1 ?c2 ?c3) ?k1 ?k2 ?k3 ?k4 ?k5 ?kK ?kd ?ku ?kr); (case k1 => k_asm); (case k2 => k_asm); (case k3 => k_asm); (case k4 => k_asm); (case k5 => k_asm); (case kK => first | exact rfl | assumption); (case kd => ktr_room); (case ku => ktr_units); (case c1 => k_mem); (case c2 => assumption); (case c3 => first | assumption | omega); intro v9 n9 h9 tk9 F9 N9 P9; (obtain ⟨e9, t9, f9⟩ := P9); (replace e9 := e9.symm); (subst e9); (subst f9)); (try dsimp only); (try k_fold)))
local macro_rules | `(tactic| walk_at "call ref") => `(tactic| walk_at "mine use 2")
local macro_rules | `(tactic| walk_at "mine use 3") => `(tactic| (k_here; (with_reducible show wpAny _ _ (call (Value.ref 56) [Value.ref _, Value.int _ _, Value.int _ _, Value.int _ _]) _ _ _); k_dflt ((refine' Con.use (bis_ok4z _ _ _ _ _ _ _ _ _ _ _ _ _ _ _ ?c1 ?c2 ?c3 ?c4) ?k1 ?k2 ?k3 ?k4 ?k5 ?kK ?kd ?ku ?kr); (case k1 => k_asm); (case k2 => k_asm); (case k3 => k_asm); (case k4 => k_asm); (case k5 => k_asm); (case kK => first | exact rfl | assumption); (case kd => ktr_room); (case ku => ktr_units); (case c1 => k_mem); (case c2 => assumption); (case c3 => first | assumption | omega); (case c4 => first | assumption | omega); intro v9 n9 h9 tk9 F9 N9 P9; (obtain ⟨e9, t9, f9⟩ := P9); (replace e9 := e9.symm); (subst e9); (subst f9)); (try dsimp only); (try k_fold)))
local macro_rules | `(tactic| walk_at "call ref") => `(tactic| walk_at "mine use 3")
local macro_rules | `(tactic| walk_at "mine rows") => `(tactic| (k_here; (with_reducible show wpAny _ _ (subscriptTail _ _ (Value.ref _) (Value.int _ _)) _ _ _); k_dflt ((with_unfolding_all refine' item_rows (k := _) ?k1 ?k2 ?k3 ?k4 ?k5 ?k6 ?_); (case k1 => k_asm); (case k2 => k_mem); (case k3 => assumption); (case k4 => with_reducible assumption); (case k5 => assumption); (case k6 => omega); intro la9 rv9 rn9 hv9 hm9 hi9); (try dsimp only); (try k_fold)))
local macro_rules | `(tactic| walk_at "subscriptTail Name") => `(tactic| walk_at "mine rows")
local macro_rules | `(tactic| walk_at "mine key") => `(tactic| (k_here; (with_reducible show wpAny _ _ (call (Value.ref 56) [Value.ref _, Value.int _ _] _) _ _ _); k_dflt (refine' ConKH.use (bis_okK _ _ _ _ _ _ _ _ _ _ _ _ _ _ _ _ _ _ _ _ _ _ _ _ _ _ ?hm ?hi ?hl ?h6 ?h5 ?hf ?hc ?hd ?hv ?h1 ?e1 ?h2 ?e2) ?k1 ?k2 ?k3 ?k4 ?k5 ?kC ?kK ?kd ?ku ?kr; (case k1 => k_asm); (case k2 => k_asm); (case k3 => k_asm); (case k4 => k_asm); (case k5 => k_asm); (case kC => kn_code); (case kK => first | exact rfl | assumption)); (case kd => ktr_room); (case ku => ktr_units); (case hf => k_mem); (case hm => k_mem); (case hi => assumption); (case hl => assumption); (case h6 => assumption); (case h5 => assumption); (case hc => with_reducible assumption); (case hd => assumption); (case hv => assumption); (case h1 => k_mem); (case h2 => k_mem); (case e1 => assumption); (case e2 => assumption); intro v9 n9 h9 tk9 F9 N9 P9; (obtain ⟨e9, t9, f9⟩ := P9); (replace e9 := e9.symm); (subst e9); (subst f9); (try dsimp only); (try k_fold)))
local macro_rules | `(tactic| walk_at "call ref") => `(tactic| walk_at "mine key")
/-! what the outer loop keeps -/
abbrev DueC := (List Value × Nat) × List (Addr × Obj) × Obj × Option (Nat × Tok)
structure DueJ (news : List (Addr × Obj)) (size step r : Nat) (ld a3 a2 a1 : Addr) (o2 o3 : Obj) (i : Nat) (c : DueC) (nx : List (Addr × Obj)) : Prop where
  nx_eq : nx = (ld, listOf c.1.1.toArray c.1.2) :: (a3, c.2.2.1) :: (a2, o2) :: (a1, o3) :: (c.2.1 ++ news)
  due : DatAll (c.2.1 ++ news) c.1.1 ((dueN size step r i).map pairD)
  off : ∀ p ∈ c.2.1 ++ news, p.1 ≠ ld ∧ p.1 ≠ a3
  last : ∀ k, i = k + 1 → ∃ la rv rn p tp, c.2.2.1.data = .cell (some (.ref la)) ∧ (la, listOf rv.toArray rn) ∈ news ∧ IntsAre rv (rowF step r (size - 1 - k)) ∧ c.2.2.2 = some (p, tp) ∧ p = dueP size step (rowF step r (size - 1 - k))
  cell : ∃ ov, c.2.2.1.data = .cell ov
  tab : ∀ p ∈ c.2.1, p.1 ≠ 260
  first : i = 0 → c.2.2.2 = none
def duePs (c : DueC) : List (Str × Value) := match c.2.2.2 with
  | none => []
  | some (p, tp) => [(Str.ofString "passed", .int (p : Nat) tp)]
theorem due_end {news : List (Addr × Obj)} {size step r : Nat} {ld a3 a2 a1 : Addr} {oR o2 o3 oR' : Obj} {i : Nat} {dv : List Value} {dn : Nat} {pool own : List (Addr × Obj)} {la : Addr} {rvs : List Value} {P : Nat} {nm hd : Str} {tn th tp : Tok} {D : Addr} {h₀ h' : Heap} {L : Addr} {m' m₀ : Str → Option Value} {stored : List Str} {s₁ : Shared} {tk : Nat}
    (hnt : ∃ o, (260, o) ∈ news) (htp : ∀ p ∈ pool, p.1 ≠ 260) (hD : DatAll (pool ++ news) dv ((dueN size step r i).map pairD)) (hoff : ∀ p ∈ pool ++ news, p.1 ≠ ld ∧ p.1 ≠ a3) (hown : OwnOff own (((ld, listOf dv.toArray dn) :: (a3, oR) :: (a2, o2) :: (a1, o3) :: (pool ++ news)).map (·.1)))
    (hcell : oR'.data = .cell (some (.ref la))) (hrows : DatAll news rvs ((List.range 6).map fun i => dints (rowF step r i))) (hv : rvs[size - 1 - i]? = some (.ref la)) (hk6 : size - 1 - i < 6) (hP : P = dueP size step (rowF step r (size - 1 - i)))
    (hnm : nm = tx (nameU size step (rowF step r (size - 1 - i)) P)) (hhd : hd = tx (heardU size step (rowF step r (size - 1 - i)) P (P + 1)))
    (l1 : @LT.lt Nat _ ld D ∧ @LT.lt Nat _ a3 D ∧ @LT.lt Nat _ a2 D ∧ @LT.lt Nat _ a1 D ∧ AllLt D (pool ++ news ++ own))
    (F : Fr h₀ L h' m') (N : News h₀ L h' ((D, ({ cls := .type "tuple", data := .seq #[.str nm tn, .str hd th] } : Obj)) :: (ld, listOf (dv.toArray.push (.ref D)) (dn + 1)) :: (a3, oR') :: (a2, o2) :: (a1, o3) :: (pool ++ news ++ own)))
    (hk : m' (Str.ofString "passed") = some (.int (P : Nat) tp)) (hr : ∀ z, z ≠ Str.ofString "left" → z ≠ Str.ofString "passed" → stored.contains z = false → m' z = m₀ z) :
    InvEndG h₀ L (RngS (DueJ news size step r ld a3 a2 a1 o2 o3 (i + 1)) duePs (Str.ofString "left") stored m₀) own s₁ { s₁ with heap := h', toks := tk } := by
  obtain ⟨la1, la2, la3, la4, la5⟩ := l1
  have hDn := allLt_ne la5
  obtain ⟨v, hv2, hd2⟩ := hrows.get (k := size - 1 - i) (by simpa using hk6)
  rw [hv] at hv2
  cases hv2
  rw [List.getElem_map, List.getElem_range] at hd2
  unfold dints at hd2
  cases hd2 with
  | list hm2 hi2 =>
  refine rng_end ((dv ++ [Value.ref D], dn + 1), (D, ({ cls := .type "tuple", data := .seq #[.str nm tn, .str hd th] } : Obj)) :: pool, oR', some (P, tp)) _ F N ?hn ?ho ?hoff ?hk ?hr ⟨rfl, ?hd, ?hof, ?hl, ⟨_, hcell⟩, ?htb, fun h9 => absurd h9 (Nat.succ_ne_zero _)⟩
  case hn =>
    intro p hp
    simp only [List.cons_append, List.mem_cons] at hp
    rcases hp with rfl | rfl | rfl | rfl | rfl | hp
    · rw [← List.push_toArray]; exact List.Mem.tail _ (List.Mem.head _)
    · exact List.Mem.tail _ (List.Mem.tail _ (List.Mem.head _))
    · exact List.Mem.tail _ (List.Mem.tail _ (List.Mem.tail _ (List.Mem.head _)))
    · exact List.Mem.tail _ (List.Mem.tail _ (List.Mem.tail _ (List.Mem.tail _ (List.Mem.head _))))
    · exact List.Mem.head _
    · exact List.Mem.tail _ (List.Mem.tail _ (List.Mem.tail _ (List.Mem.tail _ (List.Mem.tail _ (List.mem_append.mpr (.inl hp))))))
  case ho => exact fun p hp => List.Mem.tail _ (List.Mem.tail _ (List.Mem.tail _ (List.Mem.tail _ (List.Mem.tail _ (List.mem_append.mpr (.inr hp))))))
  case hoff =>
    intro p hp b hb
    obtain ⟨q, hq2, rfl⟩ := List.mem_map.mp hb
    simp only [List.cons_append, List.mem_cons] at hq2
    have ho := hown p hp
    simp only [List.map_cons, List.mem_cons] at ho
    rcases hq2 with rfl | rfl | rfl | rfl | rfl | hq2
    · exact ho _ (.inl rfl)
    · exact ho _ (.inr (.inl rfl))
    · exact ho _ (.inr (.inr (.inl rfl)))
    · exact ho _ (.inr (.inr (.inr (.inl rfl))))
    · exact hDn p (List.mem_append.mpr (.inr hp))
    · exact ho _ (.inr (.inr (.inr (.inr (List.mem_map.mpr ⟨q, hq2, rfl⟩)))))
  case hk =>
    intro p hp
    rw [List.mem_singleton.mp hp]
    exact hk
  case hr =>
    intro z h1 h2 h3
    exact hr z h1 (h2 _ (List.mem_singleton.mpr rfl)) h3
  case hd =>
    dsimp only
    rw [dueN, List.map_append]
    refine (hD.mono fun p hp => List.Mem.tail _ hp).append (.one ?_)
    unfold dueOne
    rw [← hP]
    refine .tuple (List.Mem.head _) (.cons ?_ (.one ?_))
    · rw [hnm]; exact .str _ _
    · rw [hhd]; exact .str _ _
  case hof =>
    intro p hp
    rcases List.mem_cons.mp hp with rfl | hp
    · exact ⟨Nat.ne_of_gt la1, Nat.ne_of_gt la2⟩
    · exact hoff p hp
  case htb =>
    intro p hp
    rcases List.mem_cons.mp hp with rfl | hp
    · obtain ⟨o, ho⟩ := hnt
      exact fun e => hDn _ (List.mem_append.mpr (.inl (List.mem_append.mpr (.inr ho)))) e.symm
    · exact htp p hp
  case hl =>
    intro k hk
    obtain rfl : i = k := by omega
    exact ⟨la, _, _, P, tp, hcell, hm2, ints_dat hi2, rfl, hP⟩
theorem due_perm {h₀ h : Heap} {L : Addr} {x1 x2 x3 x4 x5 x6 x7 x8 x9 P : Addr × Obj} {add pool news0 : List (Addr × Obj)} (N : News h₀ L h (x1 :: x2 :: x3 :: x4 :: x5 :: x6 :: x7 :: x8 :: x9 :: P :: (add ++ (pool ++ news0)))) :
    News h₀ L h (P :: ((x1 :: x2 :: x3 :: x4 :: x5 :: x6 :: x7 :: x8 :: x9 :: (add ++ pool)) ++ news0)) := by
  refine cb_drop N fun p hp => ?_
  simp only [List.mem_cons, List.mem_append, List.cons_append] at hp ⊢
  rcases hp with h | h | h | h | h | h | h | h | h | h | (h | h) | h <;> simp [h]
theorem due_ne {T : Nat} {x1 x2 x3 x4 x5 x6 x7 x8 x9 : Addr × Obj} {add pool : List (Addr × Obj)} (h1 : @Ne Nat x1.1 T) (h2 : @Ne Nat x2.1 T) (h3 : @Ne Nat x3.1 T) (h4 : @Ne Nat x4.1 T) (h5 : @Ne Nat x5.1 T) (h6 : @Ne Nat x6.1 T) (h7 : @Ne Nat x7.1 T) (h8 : @Ne Nat x8.1 T) (h9 : @Ne Nat x9.1 T)
    (ha : ∀ p ∈ add, p.1 ≠ T) (hp : ∀ p ∈ pool, p.1 ≠ T) : ∀ p ∈ (x1 :: x2 :: x3 :: x4 :: x5 :: x6 :: x7 :: x8 :: x9 :: (add ++ pool)), p.1 ≠ T := by
  intro p h
  simp only [List.mem_cons, List.mem_append] at h
  rcases h with rfl | rfl | rfl | rfl | rfl | rfl | rfl | rfl | rfl | h | h
  all_goals first | assumption | exact ha p h | exact hp p h
theorem due_code {c' : Addr} {oc : Obj} {x1 x2 x3 x4 x5 x6 x7 x8 x9 y3 : Addr × Obj} {add pool news0 : List (Addr × Obj)} {cvs : Array Value} (hd : oc.data = .fields cvs) (hne : y3.2.data ≠ .fields cvs) (h : (c', oc) ∈ add ++ y3 :: x4 :: x5 :: x6 :: x7 :: x8 :: (pool ++ news0)) :
    (c', oc) ∈ (x1 :: x2 :: x3 :: x4 :: x5 :: x6 :: x7 :: x8 :: x9 :: (add ++ pool)) ++ news0 := by
  simp only [List.mem_cons, List.mem_append, List.cons_append] at h ⊢
  rcases h with h | h | h | h | h | h | h | h | h
  all_goals first | (exfalso; exact hne (by rw [← h]; exact hd)) | simp [h]
local macro_rules | `(tactic| k_all) => `(tactic| assumption)
section
variable (w : World) (loose : List Str) (mean : ExcName → Option Value) (mg mb : Str → Option Value) (news : List (Addr × Obj))
theorem due_ok (size step : Nat) (t u : Tok) (lr : Addr) (rvs : List Value) (rnn : Nat) (h1 : 1 ≤ size) (h6 : size ≤ 6) (hstep : step = 3 ∨ step = 5)
  (tps : Array Value) (news0 : List (Addr × Obj)) (hnews : news = (260, tabObj tps) :: news0) (hn0 : ∀ p ∈ news0, p.1 ≠ 260) (htab : TabOk lamPos lamQual tps news0) (hm : (lr, listOf rvs.toArray rnn) ∈ news) (hrows : DatAll news rvs (rowsD step (readingsOf step) 6)) :
  ConKH w loose mean mg mb 263 news [.int size t, .int step u, .ref lr] [] 10 (fun v n' => ∃ tps' add, n' = (260, tabObj tps') :: (add ++ news0) ∧ (∀ p ∈ add, p.1 ≠ 260) ∧ TabNx lamPos lamQual tps tps' (add ++ news0) news0 ∧ DatIn (add ++ news0) v (Dat.list ((dueN size step (readingsOf step) size).map pairD))) := by
  have hnt : (260, tabObj tps) ∈ news := by rw [hnews]; exact List.Mem.head _
  have hst5 : step ≤ 5 := by omega
  have hst3 : 3 ≤ step := by omega
  have hmul : size * step ≤ 6 * 5 := Nat.mul_le_mul h6 hst5
  unfold ConKH
  k_fill
  intro dp un gd cn cs a ccd cl outer A₀ base h₀ L m s Q E B F X N T CH hk hd hu hret
  k_with_none
  w_strict (refine wpAny_call ?_; k_dflt (refine' code_defC ?k1 ?k2 ?k3 ?k4 ?k5 ?kA ?kF ?kK ?k6 ?k7 ?k8 ?k9 ?kB ?kD ?_ ?c2 ?c3 ?c4; (case kA => exact rfl); (case kF => exact rfl); (case kK => assumption); (case k1 => k_asm); (case k2 => k_asm); (case k3 => k_asm); (case k4 => k_asm); (case k5 => k_asm); (case k6 => k_is); (case k7 => k_is); (case k8 => ktr_room); (case k9 => first | exact BindsTo.of_eq rfl | exact binds_K (by k_in) rfl (by k_is) rfl rfl rfl); (case kB => exact rfl); (case kD => decide +kernel); (case c2 => exact rfl); (case c3 => exact rfl); (case c4 => exact rfl); k_whole; intro g' L' h' tk' cells' FG' F' N' Y' B' X' T' l1; k_cells Y'; (try simp only [List.cons_append, List.nil_append] at N'); (try dsimp only); (try k_lift B'); (try k_fold)); repeat' ((fail_if_success (with_reducible show wpAny _ _ (pyIter _) _ _ _)); first | (k_unfold; (try dsimp only)) | (k_end; wrow_close) | walk1 | (dsimp only; walk1) | (leave1; walk_say "STEP leave1"; try dsimp only) | fail "no step"))
  rename News _ _ _ _ => lN
  rename Fr _ _ _ _ => lF
  rename IsRange _ _ _ _ _ _ _ _ => rgX
  rename_i o3c o2c o1c d3 d2 d1 ld h2 l2 h3 F3 N3 h4 tk4 t4 u4 v4 keepA
  obtain ⟨g3, g2, g1, g0⟩ := l2
  have hs1 : (size : Int) - 1 = ((size - 1 : Nat) : Int) := by omega
  rw [hs1] at rgX
  have hn1 : size - 1 + 1 = size := by omega
  have hJ0 : DueJ news size step (readingsOf step) ld (L' + 1 + 1 + 1) (L' + 1 + 1) (L' + 1) o2c o1c 0 (([], 0), [], o3c, none) ((ld, listOf #[] 0) :: (L' + 1 + 1 + 1, o3c) :: (L' + 1 + 1, o2c) :: (L' + 1, o1c) :: news) := by
    refine ⟨rfl, .nil, ?_, (fun k h9 => nomatch h9), ⟨_, d3⟩, (fun _ h9 => nomatch h9), fun _ => rfl⟩
    intro p hp
    refine ⟨allLt_ne g0 p hp, fun e => ?_⟩
    have h8 : @LT.lt Nat _ p.1 L' := l1 p hp
    have h9 : @Eq Nat p.1 (L' + 1 + 1 + 1) := e
    omega
  have hl1 := l1
  clear N3 F3 l1 keepA
  with_unfolding_all refine' range_D (n := size - 1 + 1) (DueJ news size step (readingsOf step) ld (L' + 1 + 1 + 1) (L' + 1 + 1) (L' + 1) o2c o1c) duePs (fun _ => []) [Str.ofString "passed", Str.ofString "name", Str.ofString "heard", Str.ofString "turn"] _ (by rfl) rgX (small_down (by omega)) (rangeSize_down _) lF lN (by intro p h9; exact absurd h9 (List.not_mem_nil)) hJ0 (by intro c p h9; exact absurd h9 (List.not_mem_nil)) ?hpt ?turn ?done
  case hpt =>
    rintro ⟨a1, a2, a3, _ | ⟨p, tp⟩⟩ q hq
    · nomatch hq
    · rw [List.mem_singleton.mp hq]
      exact .inr rfl
  case done =>
    rintro ⟨⟨dv, dn⟩, pool, oR, cl9⟩ nx u' h tk9 hJ F9 N9
    obtain ⟨rfl, hD, hoff, hlast, ⟨ov, hcellR⟩, htp, hfirst⟩ := hJ
    obtain ⟨la, rv, rn, P, tp, hcR, hla, hri, hc9, hP⟩ := hlast (size - 1) rfl
    dsimp only at hc9
    subst hc9
    clear hlast hfirst hJ0 lF lN rgX
    rw [hn1] at hD
    rw [Nat.sub_self] at hri hP
    dsimp only [duePs] at *
    have hok := dueOk_of (due_ok' h1 h6 hstep (left := 0) (by omega))
    have htold := told_ok' h1 h6 hstep
    rw [← hP] at hok htold
    generalize hR : rowF step (readingsOf step) 0 = ri at *
    obtain ⟨q1, q2, q3, q4, q5, q6⟩ := hok
    have hri1 : ri.length ≤ 1000 := by omega
    have hla9 : (la, listOf rv.toArray rn) ∈ pool ++ news := List.mem_append.mpr (.inr hla)
    k_unmd
    k_fold
    w_strict (repeat' ((fail_if_success (with_reducible show PyProof.Rows.LCg.CompSrc _ _ _ _ _ _ _ _ _ _ _ _ _ _)); first | (k_unfold; (try dsimp only)) | (k_end; wrow_close) | walk1 | (dsimp only; walk1) | (leave1; walk_say "STEP leave1"; try dsimp only) | fail "no step"))
    rename News _ _ _ _ => lN
    rename Fr _ _ _ _ => lF
    rename IsRange _ _ _ _ _ _ _ _ => rgX
    have hrl : (ri.length : Int) - 1 = ((ri.length - 1 : Nat) : Int) := by omega
    rw [hrl] at rgX
    refine PyProof.Rows.LCg.CompSrc.range (n := ri.length - 1) (by rfl) lF lN rgX (small_one (by omega) (by omega) (by omega) (by omega)) (by exact rangeSize_nat _ _) (by rw [sizeLine_eq]; omega) ?_
    intro g2
    refine compU_J (fun i ys n' => n' = _ ∧ IntsAre ys ((List.range i).map fun t => ri.getD (t + 1) 0 - ri.getD t 0)) ?turnG ?finG (ri.length - 1) 0 [] _ (Nat.zero_add _) ⟨rfl, .nil⟩
    case turnG =>
      rintro j ys n' hj ⟨rfl, hys⟩ v I oI C oC D m₂ h8 tk' E' ⟨tv, rfl⟩ hC hx F' N' off ne
      k_unmd
      try k_fold
      try dsimp only
      clear lN lF
      w_strict (repeat' (first | (k_unfold; (try dsimp only)) | (k_end; wrow_close) | walk1 | (dsimp only; walk1) | (leave1; walk_say "STEP leave1"; try dsimp only) | fail "no step"))
      refine compEnd_same (by assumption) (by assumption) off ?_ ?_
      · exact trivial
      refine ⟨rfl, ?_⟩
      rw [List.range_succ, List.map_append]
      refine hys.append ?_
      have e1 : ((0 : Int) + (j : Int) + 1).toNat = j + 1 := by omega
      have e2 : ((0 : Int) + (j : Int)).toNat = j := by omega
      rw [e1, e2]
      exact .cons _ _ .nil
    case finG =>
      rintro ys n' ⟨rfl, hys⟩
      unfold PyProof.Rows.LCg.FinA
      intro D h' tk' F' N' o1
      have hgs : IntsAre ys (gapsU ri) := hys
      have hgl : (gapsU ri).length ≤ 1000 := by unfold gapsU; rw [List.length_map, List.length_range]; omega
      have hPg : P ≤ (gapsU ri).length := by unfold gapsU; rw [List.length_map, List.length_range]; omega
      have N8 : News _ _ _ ((D, listOf ys.toArray ys.length) :: _) := N'
      clear lN lF N' hys
      k_unmd
      try k_fold
      try dsimp only
      w_strict (repeat' (first | (k_unfold; (try dsimp only)) | (k_end; wrow_close) | walk1 | (dsimp only; walk1) | (leave1; walk_say "STEP leave1"; try dsimp only) | fail "no step"))
      subst hnews
      rename News _ _ _ _ => lN
      rename_i told _ _ hT FT l9
      have lT := cb_drop (news := (260, tabObj tps) :: (told, _) :: (D, listOf ys.toArray ys.length) :: (ld, listOf dv.toArray dn) :: (L' + 1 + 1 + 1, oR) :: (L' + 1 + 1, o2c) :: (L' + 1, o1c) :: (pool ++ news0)) lN (by
        intro p hp
        rcases List.mem_cons.mp hp with rfl | hp
        · exact List.Mem.tail _ (List.Mem.tail _ (List.Mem.tail _ (List.Mem.tail _ (List.Mem.tail _ (List.Mem.tail _ (List.mem_append.mpr (.inr (List.Mem.head _))))))))
        rcases List.mem_cons.mp hp with rfl | hp
        · exact List.Mem.head _
        refine List.mem_cons_of_mem _ ?_
        simp only [List.mem_cons, List.mem_append] at hp ⊢
        rcases hp with h | h | h | h | h | h | h <;> simp [h])
      have hD260 : @Ne Nat D 260 := fun e => off1_mem o1 (260, tabObj tps) (List.Mem.tail _ (List.Mem.tail _ (List.Mem.tail _ (List.Mem.tail _ (List.mem_append.mpr (.inr (List.Mem.head _))))))) e.symm
      have hL260 : @LT.lt Nat _ 260 L' := hl1 _ (List.Mem.head _)
      have hpn : ∀ p ∈ pool ++ news0, p.1 ≠ 260 := fun p hp => (List.mem_append.mp hp).elim (htp p) (hn0 p)
      obtain ⟨l9a, l9b, l9c, l9d, l9e, l9f⟩ := l9
      have h260 : @LT.lt Nat _ 260 told := by omega
      clear lN FT
      have hne9 := allLt_ne l9f
      have hoffT : ∀ oT : Obj, ∀ q ∈ (told, oT) :: (D, listOf ys.toArray ys.length) :: (ld, listOf dv.toArray dn) :: (L' + 1 + 1 + 1, oR) :: (L' + 1 + 1, o2c) :: (L' + 1, o1c) :: (pool ++ news0), q.1 ≠ 260 := by
        intro oT q hq
        have hld : @Ne Nat ld 260 := fun e => (hoff (260, tabObj tps) (List.mem_append.mpr (.inr (.head _)))).1 e.symm
        simp only [List.mem_cons] at hq
        rcases hq with rfl | rfl | rfl | rfl | rfl | rfl | hq
        · exact Nat.ne_of_gt h260
        · exact hD260
        · exact hld
        · exact Nat.ne_of_gt (Nat.lt_trans hL260 (by show @LT.lt Nat _ L' (L' + 1 + 1 + 1); omega))
        · exact Nat.ne_of_gt (Nat.lt_trans hL260 (by show @LT.lt Nat _ L' (L' + 1 + 1); omega))
        · exact Nat.ne_of_gt (Nat.lt_trans hL260 (by show @LT.lt Nat _ L' (L' + 1); omega))
        · exact hpn q hq
      refine kla_eval (by exact rfl) (lam_both hT lT (by k_asm) (by kn_code) rfl (hoffT _) (htab.mono fun q hq => ?hmono) (by rfl) ?_)
      case hmono => exact .tail _ (.tail _ (.tail _ (.tail _ (.tail _ (.tail _ (List.mem_append.mpr (.inr hq)))))))
      intro f c' oc cvs tq ctv h6 tk6 add F6 N6 hc6 hd6 hv6 hl6 hadd hnx6
      have l6a : @LT.lt Nat _ told f := hl6 _ (.tail _ (List.mem_append.mpr (.inr (.head _))))
      have l6b : @LT.lt Nat _ 260 f := hl6 _ (.head _)
      have hla8 : (la, listOf rv.toArray rn) ∈ news0 := by
        rcases List.mem_cons.mp hla with e | h9
        · cases e
        · exact h9
      have hla7 : (la, listOf rv.toArray rn) ∈ add ++ (pool ++ news0) := List.mem_append.mpr (.inr (List.mem_append.mpr (.inr hla8)))
      have hne7 : ∀ p ∈ add ++ (pool ++ news0), p.1 ≠ told := by
        intro p hp
        rcases List.mem_append.mp hp with hp | hp
        · exact Nat.ne_of_gt ((hadd p hp).2 _ (.head _))
        · refine hne9 p ?_
          rcases List.mem_append.mp hp with hp | hp
          · exact List.mem_append.mpr (.inl hp)
          · exact List.mem_append.mpr (.inr (.tail _ hp))
      have hsub := fun (oT : Obj) (oF : Obj) (oP : Obj) (p : Addr × Obj) (hp : p ∈ add ++ (told, oT) :: (D, listOf ys.toArray ys.length) :: (ld, listOf dv.toArray dn) :: (L' + 1 + 1 + 1, oR) :: (L' + 1 + 1, o2c) :: (L' + 1, o1c) :: (pool ++ news0)) =>
        (show p ∈ (told, oT) :: (D, listOf ys.toArray ys.length) :: (ld, listOf dv.toArray dn) :: (L' + 1 + 1 + 1, oR) :: (L' + 1 + 1, o2c) :: (L' + 1, o1c) :: (f, oF) :: (260, oP) :: (add ++ (pool ++ news0)) from by
          simp only [List.mem_cons, List.mem_append] at hp ⊢
          rcases hp with h | h | h | h | h | h | h | h | h <;> simp [h])
      have hc7 := hsub _ (kla_obj (Str.ofString "<lambda>") lamQual lamParams lamBody lamScope [(Str.ofString "step", L' + 1 + 1), (Str.ofString "size", L' + 1)] ((mg (Str.ofString "__name__")).getD Value.none) c' ctv) (tabObj #[rawInt (lamPos.line : Nat), rawInt (lamPos.col : Nat), Value.ref c']) _ hc6
      have N7 := cb_drop (news := (told, _) :: (D, listOf ys.toArray ys.length) :: (ld, listOf dv.toArray dn) :: (L' + 1 + 1 + 1, oR) :: (L' + 1 + 1, o2c) :: (L' + 1, o1c) :: (f, kla_obj (Str.ofString "<lambda>") lamQual lamParams lamBody lamScope [(Str.ofString "step", L' + 1 + 1), (Str.ofString "size", L' + 1)] ((mg (Str.ofString "__name__")).getD Value.none) c' ctv) :: (260, tabObj #[rawInt (lamPos.line : Nat), rawInt (lamPos.col : Nat), Value.ref c']) :: (add ++ (pool ++ news0))) N6 (by
        intro p hp
        rcases List.mem_cons.mp hp with rfl | hp
        · exact List.Mem.tail _ (List.Mem.tail _ (List.mem_append.mpr (.inr (List.Mem.head _))))
        simp only [List.mem_cons, List.mem_append] at hp
        rcases hp with rfl | rfl | rfl | rfl | rfl | rfl | rfl | hp | hp | hp
        · exact List.Mem.tail _ (List.Mem.tail _ (List.mem_append.mpr (.inr (.tail _ (.head _)))))
        · exact List.Mem.tail _ (List.Mem.tail _ (List.mem_append.mpr (.inr (.tail _ (.tail _ (.head _))))))
        · exact List.Mem.tail _ (List.Mem.tail _ (List.mem_append.mpr (.inr (.tail _ (.tail _ (.tail _ (.head _)))))))
        · exact List.Mem.tail _ (List.Mem.tail _ (List.mem_append.mpr (.inr (.tail _ (.tail _ (.tail _ (.tail _ (.head _))))))))
        · exact List.Mem.tail _ (List.Mem.tail _ (List.mem_append.mpr (.inr (.tail _ (.tail _ (.tail _ (.tail _ (.tail _ (.head _)))))))))
        · exact .head _
        · exact .tail _ (.head _)
        · exact List.Mem.tail _ (List.Mem.tail _ (List.mem_append.mpr (.inl hp)))
        · exact List.Mem.tail _ (List.Mem.tail _ (List.mem_append.mpr (.inr (.tail _ (.tail _ (.tail _ (.tail _ (.tail _ (.tail _ (List.mem_append.mpr (.inl hp))))))))))) 
        · exact List.Mem.tail _ (List.Mem.tail _ (List.mem_append.mpr (.inr (.tail _ (.tail _ (.tail _ (.tail _ (.tail _ (.tail _ (List.mem_append.mpr (.inr hp))))))))))))
      have hv7 : cvs[1]? = some (Value.str lamQual tq) := hv6
      clear hT lT N6 hv6 hl6 N8
      k_unmd
      w_strict (repeat' ((fail_if_success (with_reducible show wpAny _ _ (compareOp _ (Value.ref _) (Value.ref _)) _ _ _)); first | (k_unfold; (try dsimp only)) | (k_end; wrow_close) | walk1 | (dsimp only; walk1) | (leave1; walk_say "STEP leave1"; try dsimp only) | fail "no step"))
      rename News _ _ _ _ => N8
      rename IntsAre (List.flatten _) _ => hi4
      have hl4 : (List.replicate (Int.toNat 4) [(P : Int)]).flatten = [(P : Int), P, P, P] := rfl
      have hv4 : (List.replicate (Int.toNat 4) [Value.int (P : Int) tp]).flatten = [Value.int (P : Int) tp, .int P tp, .int P tp, .int P tp] := rfl
      rw [hl4, hv4] at hi4
      refine ke_ne_ints (xs := [Value.int _ _, Value.int _ _, Value.int _ _, Value.int _ _]) (ys := [Value.int (P : Int) tp, .int P tp, .int P tp, .int P tp]) ⟨_, (N8 _ (List.Mem.tail _ (List.Mem.tail _ (List.Mem.head _)))).1, rfl, _, rfl⟩ ⟨_, (N8 _ (List.Mem.head _)).1, rfl, _, rfl⟩ (.cons _ _ (.cons _ _ (.cons _ _ (.cons _ _ .nil)))) hi4 (by ktr_units) ?_
      obtain ⟨ht1, ht2, ht3, ht4⟩ := htold
      rw [ht1, ht2, ht3, ht4, show (decide ([(P : Int), P, P, P] = [(P : Int), P, P, P])) = true from decide_eq_true rfl, Bool.not_true]
      clear hi4 hl4 hv4
      w_strict (repeat' (first | (k_unfold; (try dsimp only)) | (k_end; wrow_close) | walk1 | (dsimp only; walk1) | (leave1; walk_say "STEP leave1"; try dsimp only) | fail "no step"))
      rename News _ _ _ _ => N9
      rename @LT.lt Nat _ told _ ∧ _ => lA
      rename @LT.lt Nat _ _ _ ∧ @LT.lt Nat _ told _ ∧ _ => lB
      have lA1 := lA.1
      have lB1 := lB.2.1
      clear lA lB
      have hld : @Ne Nat ld 260 := fun e => (hoff (260, tabObj tps) (List.mem_append.mpr (.inr (.head _)))).1 e.symm
      refine hret _ _ _ _ (by assumption) (due_perm N9) ⟨_, _, rfl, due_ne ?a1 ?a2 ?a3 hD260 hld ?a6 ?a7 ?a8 ?a9 (fun p hp => (hadd p hp).1) htp, hnx6.elim (fun e9 => .inl e9.symm) fun h9 => .inr ⟨c', oc, cvs, tq, rfl, due_code hd6 (by nofun) hc6, hd6, hv7, fun q hq => h9 q (List.Mem.tail _ (List.Mem.tail _ (List.Mem.tail _ (List.Mem.tail _ (List.Mem.tail _ (List.Mem.tail _ (List.mem_append.mpr (.inr hq))))))))⟩, .list (List.mem_append.mpr (.inl (.tail _ (.tail _ (.tail _ (.tail _ (.head _))))))) (datAll_cls ?hdc hD)⟩
      case a1 => show @Ne Nat _ 260; dsimp only; omega
      case a2 => show @Ne Nat _ 260; dsimp only; omega
      case a3 => show @Ne Nat _ 260; dsimp only; omega
      case a6 => show @Ne Nat _ 260; dsimp only; omega
      case a7 => show @Ne Nat _ 260; dsimp only; omega
      case a8 => show @Ne Nat _ 260; dsimp only; omega
      case a9 => show @Ne Nat _ 260; dsimp only; omega
      case hdc =>
        intro p hp hne
        rcases List.mem_append.mp hp with hp | hp
        · exact List.mem_append.mpr (.inl (.tail _ (.tail _ (.tail _ (.tail _ (.tail _ (.tail _ (.tail _ (.tail _ (.tail _ (List.mem_append.mpr (.inr hp)))))))))))) 
        · rcases List.mem_cons.mp hp with rfl | hp
          · exact absurd rfl hne
          · exact List.mem_append.mpr (.inr hp)
  case turn =>
    rintro i ⟨⟨dv, dn⟩, pool, oR, cl9⟩ nx tt u' h tk9 own hi hown hJ F9 N9
    obtain ⟨rfl, hD, hoff, hlast, ⟨ov, hcellR⟩, htp, hfirst⟩ := hJ
    clear hlast hfirst hJ0 lF lN rgX
    dsimp only at *
    have hz : ((size - 1 : Nat) : Int) + (i : Int) * (-1) = ((size - 1 - i : Nat) : Int) := by omega
    have hk6 : size - 1 - i < 6 := by omega
    have hok := dueOk_of (due_ok' h1 h6 hstep (left := size - 1 - i) (by omega))
    have hr9 : DatAll (pool ++ news ++ own) rvs ((List.range 6).map fun i => dints (rowF step (readingsOf step) i)) := hrows.mono fun p hp => List.mem_append.mpr (.inl (List.mem_append.mpr (.inr hp)))
    have hm9 : (lr, listOf rvs.toArray rnn) ∈ pool ++ news ++ own := List.mem_append.mpr (.inl (List.mem_append.mpr (.inr hm)))
    have hown3 : ∀ p ∈ pool ++ news ++ own, p.1 ≠ L' + 1 + 1 + 1 := fun p hp => (List.mem_append.mp hp).elim (fun h9 => (hoff p h9).2) fun h9 => hown p h9 _ (List.mem_cons_of_mem _ List.mem_cons_self)
    have hownD : ∀ p ∈ pool ++ news ++ own, p.1 ≠ ld := fun p hp => (List.mem_append.mp hp).elim (fun h9 => (hoff p h9).1) fun h9 => hown p h9 _ List.mem_cons_self
    have hdl : dv.length ≤ 100 := by
      rw [hD.length, List.length_map]
      have : ∀ k, (dueN size step (readingsOf step) k).length = k := by
        intro k
        induction k with
        | zero => rfl
        | succ k ih => unfold dueN; rw [List.length_append, ih]; rfl
      rw [this]; omega
    unfold dueP at hok
    obtain ⟨q1, q2, q3, q4, q5, q6⟩ := hok
    have q4' : 97 ≤ 97 + (size : Int) * (step : Int) - (rowF step (readingsOf step) (size - 1 - i)).getD (((bisR (rowF step (readingsOf step) (size - 1 - i)) (↑size * (↑step - 1)) 0 (rowF step (readingsOf step) (size - 1 - i)).length : Nat) : Int).toNat) 0 := q4
    have q5' : 97 + (size : Int) * (step : Int) - (rowF step (readingsOf step) (size - 1 - i)).getD (((bisR (rowF step (readingsOf step) (size - 1 - i)) (↑size * (↑step - 1)) 0 (rowF step (readingsOf step) (size - 1 - i)).length : Nat) : Int).toNat) 0 ≤ 122 := q5
    rw [List.cons_append, List.cons_append, List.cons_append, List.cons_append] at N9
    k_unmd
    k_fold
    w_strict (repeat' ((fail_if_success (with_reducible show wpAny _ _ (pyIter _) _ _ _)); first | (k_unfold; (try dsimp only)) | (k_end; wrow_close) | walk1 | (dsimp only; walk1) | (leave1; walk_say "STEP leave1"; try dsimp only) | fail "no step"))
    · rename News _ _ _ _ => lN
      rename Fr _ _ _ _ => lF
      rename IsRange _ _ _ _ _ _ _ _ => rgY
      with_unfolding_all refine' range_F (σ := List Nat × Tok) (fun j c => c.1 = heardU size step (rowF step (readingsOf step) (size - 1 - i)) (bisR (rowF step (readingsOf step) (size - 1 - i)) (↑size * (↑step - 1)) 0 (rowF step (readingsOf step) (size - 1 - i)).length) j) (fun c => [(Str.ofString "heard", .str (tx c.1) c.2)]) [] ([], _) (by rfl) rgY (small_down (by omega)) (rangeSize_down _) lF lN (by intro p h9; rw [List.mem_singleton.mp h9]; rfl) rfl ?turnI ?doneI
      case turnI =>
        rintro j ⟨X, tX⟩ tj u2 h8 tk8 own8 hj hown8 hX F8 N8
        clear lF lN rgY
        dsimp only at *
        generalize hP9 : bisR (rowF step (readingsOf step) (size - 1 - i)) (↑size * (↑step - 1)) 0 (rowF step (readingsOf step) (size - 1 - i)).length = P at *
        have hx8 : (((P : Nat) : Int) + (j : Int) * (-1)).toNat = P - j := by omega
        have q7 := q6 (P - j) (by omega)
        rw [← hx8] at q7
        obtain ⟨q8, q9⟩ := q7
        have hxl : (tx X).length ≤ 1000 := by
          rw [hX, tx_len]
          exact heardU_len _ _ _ _ _ (by omega)
        have hY8 := dec_int q8 q9
        k_unmd
        try k_fold
        w_strict (repeat' (first | (k_unfold; (try dsimp only)) | (k_end; wrow_close) | walk1 | (dsimp only; walk1) | (leave1; walk_say "STEP leave1"; try dsimp only) | fail "no step"))
        have hE : tx X ++ (Str.ofString " " ++ Str.ofString (toString ((size : Int) * (step : Int) + 1 - (rowF step (readingsOf step) (size - 1 - i)).getD (((P : Nat) : Int) + (j : Int) * (-1)).toNat 0))) = tx (heardU size step (rowF step (readingsOf step) (size - 1 - i)) P (j + 1)) := by
          rw [hY8, show Str.ofString " " = tx [32] from rfl, tx_app, tx_app, hX, hx8, heardU, List.append_assoc]
        refine rng_same (heardU size step (rowF step (readingsOf step) (size - 1 - i)) P (j + 1), _) (by assumption) (by assumption) hown8 (by intro p h9; rw [List.mem_singleton.mp h9]; with_unfolding_all exact congrArg (fun z => some (Value.str z _)) hE) ?hr8 rfl
        case hr8 => (intro z h1 h2 h3; simp only [List.forall_mem_cons, List.not_mem_nil, false_implies, implies_true, and_true, ne_eq] at h2; simp only [List.contains_cons, List.contains_nil, Bool.or_false, Bool.or_eq_false_iff, beq_eq_false_iff_ne, ne_eq] at h3; simp [kstB, h1, h2, h3])
      case doneI =>
        rintro ⟨X, tX⟩ u2 h8 tk8 hX F8 N8
        clear lF lN rgY
        dsimp only at *
        k_unmd
        try k_fold
        have hxl : (tx X).length ≤ 1000 := by
          rw [hX, tx_len]
          exact heardU_len _ _ _ _ _ (by omega)
        w_strict (repeat' (first | (k_unfold; (try dsimp only)) | (k_end; wrow_close) | walk1 | (dsimp only; walk1) | (leave1; walk_say "STEP leave1"; try dsimp only) | fail "no step"))
        rename _ ∧ _ ∧ _ ∧ _ ∧ AllLt _ _ => l1D
        rename rvs[_]? = some _ => hvR
        rename Obj.data _ = Data.cell (some (Value.ref _)) => hcR
        rename Int.fmod _ 2 = 1 => hq
        have hpar : (bisR (rowF step (readingsOf step) (size - 1 - i)) (↑size * (↑step - 1)) 0 (rowF step (readingsOf step) (size - 1 - i)).length) % 2 = 1 := by
          have e := hq
          rw [Int.fmod_eq_emod_of_nonneg _ (by omega)] at e
          omega
        have hnm : Txt.upper (Str.mk #[(97 + (size : Int) * (step : Int) - (rowF step (readingsOf step) (size - 1 - i)).getD (((bisR (rowF step (readingsOf step) (size - 1 - i)) (↑size * (↑step - 1)) 0 (rowF step (readingsOf step) (size - 1 - i)).length : Nat) : Int).toNat) 0).toNat]) = tx (nameU size step (rowF step (readingsOf step) (size - 1 - i)) (bisR (rowF step (readingsOf step) (size - 1 - i)) (↑size * (↑step - 1)) 0 (rowF step (readingsOf step) (size - 1 - i)).length)) := by
          unfold nameU
          rw [if_pos hpar]
          exact upper_tx (l := [nameC size step (rowF step (readingsOf step) (size - 1 - i)) _]) (by intro c hc; rw [List.mem_singleton.mp hc]; unfold nameC; omega)
        refine due_end ⟨_, hnt⟩ htp hD hoff hown hcR hrows hvR hk6 rfl hnm (congrArg tx hX) l1D (by assumption) (by assumption) (by rfl) ?hrO
        case hrO =>
          intro z h1 h2 h3
          simp only [List.contains_cons, List.contains_nil, Bool.or_false, Bool.or_eq_false_iff, beq_eq_false_iff_ne, ne_eq] at h3
          simp [kstB, h1, h2, h3]
    · rename News _ _ _ _ => lN
      rename Fr _ _ _ _ => lF
      rename IsRange _ _ _ _ _ _ _ _ => rgY
      with_unfolding_all refine' range_F (σ := List Nat × Tok) (fun j c => c.1 = heardU size step (rowF step (readingsOf step) (size - 1 - i)) (bisR (rowF step (readingsOf step) (size - 1 - i)) (↑size * (↑step - 1)) 0 (rowF step (readingsOf step) (size - 1 - i)).length) j) (fun c => [(Str.ofString "heard", .str (tx c.1) c.2)]) [] ([], _) (by rfl) rgY (small_down (by omega)) (rangeSize_down _) lF lN (by intro p h9; rw [List.mem_singleton.mp h9]; rfl) rfl ?turnI ?doneI
      case turnI =>
        rintro j ⟨X, tX⟩ tj u2 h8 tk8 own8 hj hown8 hX F8 N8
        clear lF lN rgY
        dsimp only at *
        generalize hP9 : bisR (rowF step (readingsOf step) (size - 1 - i)) (↑size * (↑step - 1)) 0 (rowF step (readingsOf step) (size - 1 - i)).length = P at *
        have hx8 : (((P : Nat) : Int) + (j : Int) * (-1)).toNat = P - j := by omega
        have q7 := q6 (P - j) (by omega)
        rw [← hx8] at q7
        obtain ⟨q8, q9⟩ := q7
        have hxl : (tx X).length ≤ 1000 := by
          rw [hX, tx_len]
          exact heardU_len _ _ _ _ _ (by omega)
        have hY8 := dec_int q8 q9
        k_unmd
        try k_fold
        w_strict (repeat' (first | (k_unfold; (try dsimp only)) | (k_end; wrow_close) | walk1 | (dsimp only; walk1) | (leave1; walk_say "STEP leave1"; try dsimp only) | fail "no step"))
        have hE : tx X ++ (Str.ofString " " ++ Str.ofString (toString ((size : Int) * (step : Int) + 1 - (rowF step (readingsOf step) (size - 1 - i)).getD (((P : Nat) : Int) + (j : Int) * (-1)).toNat 0))) = tx (heardU size step (rowF step (readingsOf step) (size - 1 - i)) P (j + 1)) := by
          rw [hY8, show Str.ofString " " = tx [32] from rfl, tx_app, tx_app, hX, hx8, heardU, List.append_assoc]
        refine rng_same (heardU size step (rowF step (readingsOf step) (size - 1 - i)) P (j + 1), _) (by assumption) (by assumption) hown8 (by intro p h9; rw [List.mem_singleton.mp h9]; with_unfolding_all exact congrArg (fun z => some (Value.str z _)) hE) ?hr8 rfl
        case hr8 => (intro z h1 h2 h3; simp only [List.forall_mem_cons, List.not_mem_nil, false_implies, implies_true, and_true, ne_eq] at h2; simp only [List.contains_cons, List.contains_nil, Bool.or_false, Bool.or_eq_false_iff, beq_eq_false_iff_ne, ne_eq] at h3; simp [kstB, h1, h2, h3])
      case doneI =>
        rintro ⟨X, tX⟩ u2 h8 tk8 hX F8 N8
        clear lF lN rgY
        dsimp only at *
        k_unmd
        try k_fold
        have hxl : (tx X).length ≤ 1000 := by
          rw [hX, tx_len]
          exact heardU_len _ _ _ _ _ (by omega)
        w_strict (repeat' (first | (k_unfold; (try dsimp only)) | (k_end; wrow_close) | walk1 | (dsimp only; walk1) | (leave1; walk_say "STEP leave1"; try dsimp only) | fail "no step"))
        rename _ ∧ _ ∧ _ ∧ _ ∧ AllLt _ _ => l1D
        rename rvs[_]? = some _ => hvR
        rename Obj.data _ = Data.cell (some (Value.ref _)) => hcR
        rename Int.fmod _ 2 ≠ 1 => hq
        have hpar : ¬ (bisR (rowF step (readingsOf step) (size - 1 - i)) (↑size * (↑step - 1)) 0 (rowF step (readingsOf step) (size - 1 - i)).length) % 2 = 1 := by
          intro e
          apply hq
          rw [Int.fmod_eq_emod_of_nonneg _ (by omega)]
          omega
        have hnm : (Str.mk #[(97 + (size : Int) * (step : Int) - (rowF step (readingsOf step) (size - 1 - i)).getD (((bisR (rowF step (readingsOf step) (size - 1 - i)) (↑size * (↑step - 1)) 0 (rowF step (readingsOf step) (size - 1 - i)).length : Nat) : Int).toNat) 0).toNat]) = tx (nameU size step (rowF step (readingsOf step) (size - 1 - i)) (bisR (rowF step (readingsOf step) (size - 1 - i)) (↑size * (↑step - 1)) 0 (rowF step (readingsOf step) (size - 1 - i)).length)) := by
          unfold nameU
          rw [if_neg hpar]
          rfl
        refine due_end ⟨_, hnt⟩ htp hD hoff hown hcR hrows hvR hk6 rfl hnm (congrArg tx hX) l1D (by assumption) (by assumption) (by rfl) ?hrO
        case hrO =>
          intro z h1 h2 h3
          simp only [List.contains_cons, List.contains_nil, Bool.or_false, Bool.or_eq_false_iff, beq_eq_false_iff_ne, ne_eq] at h3
          simp [kstB, h1, h2, h3]
end
end
section
open PySem PySem.W PyProof.Rows


local macro_rules | `(tactic| walk_at "mine enter") => `(tactic| (k_here; (with_reducible show wpAny _ _ (call (Value.ref 88) _ _) _ _ _); (refine wpAny_call ?_); k_dflt (refine' code_def ?k1 ?k2 ?k3 ?k4 ?k5 ?kA ?kF ?kK ?k6 ?k7 ?k8 ?k9 ?kB ?_ ?c2 ?c3 ?c4 ?c5; (case kA => exact rfl); (case kF => exact rfl); (case kK => first | exact rfl | assumption); (case k1 => k_asm); (case k2 => k_asm); (case k3 => k_asm); (case k4 => k_asm); (case k5 => k_asm); (case k6 => k_is); (case k7 => k_is); (case k8 => ktr_room); (case k9 => exact BindsTo.of_eq rfl); (case c5 => decide); (case kB => exact locs rfl); (case c2 => exact rfl); (case c3 => exact rfl); (case c4 => exact rfl); k_whole; intro g' L' h' FG' F' N' B' X' T'; (try dsimp only); (try k_lift B'); (try k_fold))))
local macro_rules | `(tactic| walk_at "call ref") => `(tactic| walk_at "mine enter")
/-- a call's contract for a caller that is the first frame -/
def Con0 (w : World) (loose : List Str) (mean : ExcName → Option Value) (mg mb : Str → Option Value) (f : Addr) (news : List (Addr × Obj)) (vs : List Value) (D : Nat) (Post : Value → List (Addr × Obj) → Prop) : Prop :=
  ∀ (dp un : Nat) (gd : Option (List Code)) (cn : Str) (cs : Scope) (a : Addr) (ccd : Value) (A₀ : Around) (base h₀ : Heap) (L : Addr) (m : Str → Option Value) (s : Shared) (Q E : Value → Shared → Prop),
    Below A₀ base [] h₀ → Fr h₀ L s.heap m → (Mine.heapK w.params).In h₀ → (Mine.heapK w.params).In base → News h₀ L s.heap news → Top topProg loose mean mg mb h₀ → Top topProg loose mean mg mb base → cs.kind = .function →
    dp + D < recursionLimit → un + 8 * D < cLine → (∀ v news' h' tk', Fr h₀ L h' m → News h₀ L h' news' → Post v news' → Q v { s with heap := h', toks := tk' }) →
      wpAny (model PySem.Challenge.rw_ux0026_01.row.prog w) { handled := none, depth := dp, frames := some [envOf cn cs L a ccd], guards := gd, units := un } (call (.ref f) vs) Q E s
section
variable (w : World) (loose : List Str) (mean : ExcName → Option Value) (mg mb : Str → Option Value) (news : List (Addr × Obj))
theorem refused_ok (x : Str) (t : Tok) (hl : x.length ≤ 1000) (h3 : (Txt.slice x none (some 3) != Str.ofString "257") = true) :
  Con0 w loose mean mg mb 270 news [.str x t] 4 (fun v n' => n' = news ∧ v = .bool true) := by
  unfold Con0
  k_fill
  intro dp un gd cn cs a ccd A₀ base h₀ L m s Q E B F X XB N T TB hk hd hu hret
  k_with_none
  w_strict (refine wpAny_call ?_; k_dflt (refine' code_defS0 ?k1 ?k2 ?k3 ?k4 ?k5 ?kA ?k6 ?k7 ?k8 ?k9 ?kB ?_ ?cK ?c2 ?c3 ?c4 ?c5; (case kA => exact rfl); (case k2 => k_asm); (case k1 => k_asm); (case k3 => k_asm); (case k4 => k_asm); (case k5 => k_asm); (case k6 => k_is); (case k7 => k_is); (case k8 => first | ktr_room | omega); (case k9 => exact BindsTo.of_eq rfl); (case kB => exact locs rfl); (case cK => assumption); (case c2 => exact rfl); (case c3 => exact rfl); (case c4 => exact rfl); (case c5 => decide); k_whole; intro g' L' h' FG' F' N' B' X' T' D'; (try dsimp only); (try k_lift B'); (try k_fold)); repeat' (first | (k_unfold; (try dsimp only)) | (k_end; wrow_close) | walk1 | (dsimp only; walk1) | (leave1; walk_say "STEP leave1"; try dsimp only) | fail "no step"))
  exact hret _ _ _ _ (by assumption) (by assumption) ⟨rfl, rfl⟩
end
end
section
open PySem PySem.W PyProof.Rows


local macro_rules | `(tactic| walk_at "exec For Tuple List cons nil") => `(tactic| (k_here; (rename Fr _ _ _ _ => lF'); (with_unfolding_all refine' For_turns lF' ?_); k_whole))
local macro_rules | `(tactic| walk_at "exec For Name BinOp cons nil") => `(tactic| (k_here; (rename Fr _ _ _ _ => lF'); (with_unfolding_all refine' For_invVF lF' ?k1 ?k2 ?_; (case k1 => exact rfl); (case k2 => exact rfl); k_whole)))
theorem ConS.use {w : World} {loose : List Str} {mean : ExcName → Option Value} {mg mb : Str → Option Value} {f : Addr} {news : List (Addr × Obj)} {ls : Addr} {svs : List Value} {vs : List Value} {D : Nat} {Post : Value → List (Addr × Obj) → Prop}
    {dp un : Nat} {gd : Option (List Code)} {cn : Str} {cs : Scope} {a : Addr} {ccd : Value} {cl : List (Str × Addr)} {outer : List Env} {A₀ : Around} {base h₀ : Heap} {L : Addr} {m : Str → Option Value} {s : Shared} {Q E : Value → Shared → Prop}
    (c : ConS w loose mean mg mb f news ls svs vs D Post) (B : Below A₀ base outer h₀) (F : Fr h₀ L s.heap m) (X : (Mine.heapK w.params).In h₀) (N : News h₀ L s.heap news) (T : Top topProg loose mean mg mb h₀) (hk : cs.kind = .function) (hS : base.IsList ls svs.toArray)
    (hd : dp + D < recursionLimit) (hu : un + 8 * D < cLine) (ret : ∀ v news' h' tk', Fr h₀ L h' m → News h₀ L h' news' → Post v news' → Q v { s with heap := h', toks := tk' }) :
    wpAny (model PySem.Challenge.rw_ux0026_01.row.prog w) (ktrTop dp un gd cn cs L a ccd cl outer) (call (.ref f) vs) Q E s := c _ _ _ _ _ _ _ _ _ _ _ _ _ _ _ _ _ B F X N T hk hS hd hu ret
theorem fm_in (n : Int) {m : Int} (h : 0 < m) : 0 ≤ n.fmod m ∧ n.fmod m < m := by
  rw [Int.fmod_eq_emod_of_nonneg _ (by omega)]
  exact ⟨Int.emod_nonneg _ (by omega), Int.emod_lt_of_pos _ h⟩
section
variable {prog : Program} {w : World} {A : Around} {E : Value → Shared → Prop} {s : Shared} {h₀ : Heap} {L : Addr} {news : List (Addr × Obj)} {Q : Value → Shared → Prop}
theorem item_tails {value slice : Expr} {l : Addr} {n : Nat} {a b c : Str} {ta tb tc : Tok} {z : Int} {u : Tok} (N : News h₀ L s.heap news) (hm : (l, listOf #[Value.str a ta, Value.str b tb, Value.str c tc] n) ∈ news) (h0 : 0 ≤ z) (h3 : z < 3)
    (h : ∀ (x : Str) t, (x = a ∨ x = b ∨ x = c) → Q (.str x t) s)
    (hs : subscripted slice false (.ref l) (.int z u) = operate [.ref l, .int z u] (getItem (.ref l) (.int z u)) := by with_unfolding_all rfl) :
    wpAny (model prog w) A (subscriptTail value slice (.ref l) (.int z u)) Q E s := by
  refine kba_turn (value' := PySem.Expr.Name (PySem.Str.ofString "_") ⟨0, 0, 0, 0⟩) (fun _ => rfl) ?_
  obtain ⟨k, rfl⟩ := Int.eq_ofNat_of_zero_le h0
  have hk : k = 0 ∨ k = 1 ∨ k = 2 := by omega
  refine item_listL (l := [Value.str a ta, Value.str b tb, Value.str c tc]) ⟨_, (N _ hm).1, rfl, n, rfl⟩ h0 (by omega) (x := if k = 0 then Value.str a ta else if k = 1 then Value.str b tb else Value.str c tc) ?_ ?_ hs (fun _ => rfl)
  · rcases hk with rfl | rfl | rfl <;> rfl
  · rcases hk with rfl | rfl | rfl
    · exact h _ _ (.inl rfl)
    · exact h _ _ (.inr (.inl rfl))
    · exact h _ _ (.inr (.inr rfl))
end
local macro_rules | `(tactic| walk_at "mine tails") => `(tactic| (k_here; (with_reducible show wpAny _ _ (subscriptTail _ _ (Value.ref _) (Value.int _ _)) _ _ _); k_dflt ((with_unfolding_all refine' item_tails ?N ?m ?h0 ?h3 ?_); (case N => k_asm); (case m => k_mem)); (case h0 => assumption); (case h3 => assumption); intro x9 t9 hx9; (try dsimp only); (try k_fold)))
local macro_rules | `(tactic| walk_at "subscriptTail") => `(tactic| walk_at "mine tails")
theorem rows_dints {h₀ h : Heap} {L : Addr} {x : Addr × Obj} {n : List (Addr × Obj)} {vs : List Value} {st r : Nat} (N : News h₀ L h (x :: n)) (h : DatAll n vs (rowsD st r 6)) : DatAll (x :: n) vs (((List.range 6).map (rowF st r)).map dints) := by
  rw [List.map_map]; exact h.mono fun p hp => List.Mem.tail _ hp
theorem rows_back {n n' : List (Addr × Obj)} {vs : List Value} {st r : Nat} (h : DatAll n vs (((List.range 6).map (rowF st r)).map dints)) (hs : ∀ p ∈ n, p.2.cls ≠ .none → p ∈ n') : DatAll n' vs (rowsD st r 6) := by
  rw [List.map_map] at h; exact datAll_cls hs h
theorem rows_flat {st : Nat} (h : st = 3 ∨ st = 5) : ((List.range 6).map (rowF st (readingsOf st))).flatten.length ≤ 900 := by
  rcases h with rfl | rfl <;> decide +kernel
theorem rows_all {st : Nat} (h : st = 3 ∨ st = 5) : insAll [] ((List.range 6).map (rowF st (readingsOf st))).flatten = (List.range (6 * st)).map fun i : Nat => (i : Int) + 1 := by
  rcases h with rfl | rfl <;> decide +kernel
local macro_rules | `(tactic| walk_at "mine use 1") => `(tactic| (k_here; (with_reducible show wpAny _ _ (call (Value.ref 246) [Value.int _ _, Value.int _ _, Value.str _ _, Value.str _ _]) _ _ _); k_dflt ((refine' Con.use (rows_ok _ _ _ _ _ _ _ _ _ _ _ _ _ _ ?c1 ?c2 ?c3 ?c4 ?c5 ?c6) ?k1 ?k2 ?k3 ?k4 ?k5 ?kK ?kd ?ku ?kr); (case k1 => k_asm); (case k2 => k_asm); (case k3 => k_asm); (case k4 => k_asm); (case k5 => k_asm); (case kK => first | exact rfl | assumption); (case kd => ktr_room); (case ku => ktr_units); (case c1 => omega); (case c2 => omega); (case c3 => omega); (case c4 => assumption); (case c5 => assumption); (case c6 => assumption); intro v9 n9 h9 tk9 F9 N9 P9; (obtain ⟨lr9, rvs9, rnn9, tl9, e9, f9, o9, p9, d9⟩ := P9); (subst e9); (subst f9); (replace d9 := rows_dints N9 d9); (simp only [List.cons_append, List.nil_append] at N9 d9)); (try dsimp only); (try k_fold)))
local macro_rules | `(tactic| walk_at "call ref") => `(tactic| walk_at "mine use 1")
local macro_rules | `(tactic| walk_at "mine use 2") => `(tactic| (k_here; (with_reducible show wpAny _ _ (call (Value.ref 253) [Value.ref _]) _ _ _); k_dflt ((refine' Con.use (order_ok _ _ _ _ _ _ _ _ _ _ ?c1 ?c2 ?c3) ?k1 ?k2 ?k3 ?k4 ?k5 ?kK ?kd ?ku ?kr); (case k1 => k_asm); (case k2 => k_asm); (case k3 => k_asm); (case k4 => k_asm); (case k5 => k_asm); (case kK => first | exact rfl | assumption); (case kd => ktr_room); (case ku => ktr_units); (case c1 => k_dflt k_mem); (case c2 => assumption); (case c3 => assumption); intro v9 n9 h9 tk9 F9 N9 P9; (obtain ⟨lo9, ovs9, onn9, e9, f9, q9, i9⟩ := P9); (subst e9); (subst f9)); (try dsimp only); (try k_fold)))
local macro_rules | `(tactic| walk_at "call ref") => `(tactic| walk_at "mine use 2")
local macro_rules | `(tactic| walk_at "mine lrange") => `(tactic| (k_here; (with_reducible show wpAny _ _ (call (Value.type _) [Value.ref _]) _ _ _); (rename IsRange _ _ _ _ _ _ _ _ => rgX); (with_unfolding_all refine' kll_range ?k0 ?k1 ?k2 ?k3 ?k4 ?k5 ?k6 ?_; (case k0 => rfl); (case k1 => k_asm); (case k2 => k_asm); (case k3 => exact rgX); (case k4 => exact small_one (by omega) (by omega) (by omega) (by omega)); (case k5 => exact rangeSize_nat _ _); (case k6 => omega); k_whole); intro D' vs' c' h' tk' F' N' l1 hI'; (try k_lt l1)))
local macro_rules | `(tactic| walk_at "call type:list") => `(tactic| walk_at "mine lrange")
theorem rows_ks {st : Nat} (h : st = 3 ∨ st = 5) : insAll [] ((List.range 6).map (rowF st (readingsOf st))).flatten = rangeKs 1 ((6 * (st : Int) + 1) - 1).toNat := by
  rw [rows_all h, show ((6 * (st : Int) + 1) - 1).toNat = 6 * st by omega]
  unfold rangeKs
  apply List.map_congr_left
  intro i _
  omega
/-! the loop over the sizes -/
def TabJ (T : Addr) (pos : Pos) (qual : Str) (base : List (Addr × Obj)) (x : Str) (m₀ : Str → Option Value) (m : Str → Option Value) (nx : List (Addr × Obj)) : Prop :=
  (∀ z, z ≠ x → m z = m₀ z) ∧ ∃ tps rest, nx = (T, tabObj tps) :: rest ∧ (∀ p ∈ rest, p.1 ≠ T) ∧ TabOk pos qual tps rest ∧ ∀ p ∈ base, p ∈ rest
section
variable {prog : Program} {w : World} {A : Around} {E : Value → Shared → Prop} {s : Shared} {env : Env} {h₀ : Heap} {x : Str} {body : List Stmt} {Q : Flow → Shared → Prop}
theorem iter_tab {T : Addr} {pos : Pos} {qual : Str} {ax : Addr} {vs : List Value} {nn : Nat} {m₀ : Str → Option Value} {tps0 : Array Value} (base : List (Addr × Obj)) (hh : A.handled = none) (F : Fr h₀ env.locals s.heap m₀) (N : News h₀ env.locals s.heap ((T, tabObj tps0) :: base))
    (hm : (ax, listOf vs.toArray nn) ∈ base) (hbT : ∀ p ∈ base, p.1 ≠ T) (htab : TabOk pos qual tps0 base)
    (turn : ∀ (i : Nat) (v : Value) (h : Heap) (tk : Nat) (rest : List (Addr × Obj)) (tps : Array Value) (own : List (Addr × Obj)), vs[i]? = some v → (∀ p ∈ rest, p.1 ≠ T) → TabOk pos qual tps rest → (∀ p ∈ base, p ∈ rest) → OwnOff own (T :: rest.map (·.1)) → Fr h₀ env.locals h (fun y => if y = x then some v else m₀ y) → News h₀ env.locals h ((T, tabObj tps) :: (rest ++ own)) →
      wpAny (model prog w) A (execs body env) (InvPostG h₀ env.locals (fun m' nx => (ax, listOf vs.toArray nn) ∈ nx ∧ TabJ T pos qual base x m₀ m' nx) own { s with heap := h, toks := tk } Q) E { s with heap := h, toks := tk })
    (done : ∀ (u : Str → Option Value) h tk rest tps, (∀ p ∈ rest, p.1 ≠ T) → TabOk pos qual tps rest → (∀ p ∈ base, p ∈ rest) → Fr h₀ env.locals h (fun y => if y = x then u y else m₀ y) → News h₀ env.locals h ((T, tabObj tps) :: rest) → Q .next { s with heap := h, toks := tk }) :
    wpAny (model prog w) A (pyIter (.ref ax)) (fun it s₂ => LoopAtV prog w A h₀ env x body Q E it s₂) E s := by
  refine kdl_iter (nn := nn) (fun _ m nx => TabJ T pos qual base x m₀ m nx) hh (List.Mem.tail _ hm) F N ⟨fun _ _ => rfl, tps0, base, rfl, hbT, htab, fun _ h => h⟩ ?_ ?_
  · rintro i v m₁ nx h tk own hv hoff hmem ⟨h1, tps, rest, rfl, h2, h3, h4⟩ F₁ N₁
    have e : (fun y => if y = x then some v else m₁ y) = (fun y => if y = x then some v else m₀ y) := by
      funext y
      by_cases hy : y = x
      · simp [hy]
      · simp [hy, h1 y hy]
    rw [e] at F₁
    exact turn i v h tk rest tps own hv h2 h3 h4 hoff F₁ N₁
  · rintro m₁ nx h tk ⟨h1, tps, rest, rfl, h2, h3, h4⟩ F₁ N₁
    have e : m₁ = (fun y => if y = x then m₁ y else m₀ y) := by
      funext y
      by_cases hy : y = x
      · simp [hy]
      · simp [hy, h1 y hy]
    rw [e] at F₁
    exact done m₁ h tk rest tps h2 h3 h4 F₁ N₁
theorem tab_end {T : Addr} {pos : Pos} {qual : Str} {ax : Addr} {vs : List Value} {nn : Nat} {m₀ m' : Str → Option Value} {tps tps' : Array Value} {base rest own n' n2 news0 : List (Addr × Obj)} {L : Addr} {s₁ : Shared} {h' : Heap} {tk : Nat}
    (F : Fr h₀ L h' m') (N : News h₀ L h' n') (hT : (T, tabObj tps') ∈ n') (hsub : ∀ p ∈ rest ++ own, p ∈ n') (hnx : TabNx pos qual tps tps' n2 news0) (h2 : ∀ p ∈ n2, p ∈ n') (h2T : ∀ p ∈ n2, p.1 ≠ T) (h0 : ∀ p ∈ rest ++ own, p ∈ news0)
    (hrT : ∀ p ∈ rest, p.1 ≠ T) (hok : TabOk pos qual tps rest) (hbase : ∀ p ∈ base, p ∈ rest) (hm : (ax, listOf vs.toArray nn) ∈ base) (hoff : OwnOff own (T :: rest.map (·.1))) (hz : ∀ z, z ≠ x → m' z = m₀ z) :
    InvEndG h₀ L (fun m' nx => (ax, listOf vs.toArray nn) ∈ nx ∧ TabJ T pos qual base x m₀ m' nx) own s₁ { s₁ with heap := h', toks := tk } := by
  rcases hnx with rfl | ⟨c', oc, cvs, t, rfl, hc, hd, hv, hlt⟩
  · refine ⟨h', tk, m', n', (T, tabObj tps') :: rest, rfl, F, N, ?_, fun p hp => hsub p (List.mem_append.mpr (.inr hp)), hoff, List.Mem.tail _ (hbase _ hm), hz, tps', rest, rfl, hrT, hok, hbase⟩
    intro p hp
    rcases List.mem_cons.mp hp with rfl | hp
    · exact hT
    · exact hsub p (List.mem_append.mpr (.inl hp))
  · refine ⟨h', tk, m', n', (T, tabObj #[rawInt pos.line, rawInt pos.col, .ref c']) :: (c', oc) :: rest, rfl, F, N, ?_, fun p hp => hsub p (List.mem_append.mpr (.inr hp)), ?_, List.Mem.tail _ (List.Mem.tail _ (hbase _ hm)), hz, _, (c', oc) :: rest, rfl, ?_, .inr ⟨c', oc, cvs, t, rfl, List.Mem.head _, hd, hv⟩, fun p hp => List.Mem.tail _ (hbase p hp)⟩
    · intro p hp
      rcases List.mem_cons.mp hp with rfl | hp
      · exact hT
      rcases List.mem_cons.mp hp with rfl | hp
      · exact h2 _ hc
      · exact hsub p (List.mem_append.mpr (.inl hp))
    · intro p hp b hb
      simp only [List.map_cons, List.mem_cons] at hb
      rcases hb with rfl | rfl | hb
      · exact hoff p hp _ (List.Mem.head _)
      · exact Nat.ne_of_lt (hlt p (h0 p (List.mem_append.mpr (.inr hp))))
      · exact hoff p hp b (List.Mem.tail _ hb)
    · intro p hp
      rcases List.mem_cons.mp hp with rfl | hp
      · exact h2T _ hc
      · exact hrT p hp
theorem dat_ne_same {L : Addr} {news n1 n2 : List (Addr × Obj)} {a b : Value} {d : Dat} {Q : Value → Shared → Prop} (N : News h₀ L s.heap news) (Dx : DatIn n1 a d) (sx : ∀ p ∈ n1, p ∈ news) (Dy : DatIn n2 b d) (sy : ∀ p ∈ n2, p ∈ news) (hk : kqdOk 9 d = true) (hu : A.units + 64 < cLine) (h : Q (.bool false) s) :
    wpAny (model prog w) A (compareOp .NotEq a b) Q E s := by
  obtain ⟨as, ra⟩ := kqd_in N 9 (Dx.mono sx) hk
  obtain ⟨bs, rb⟩ := kqd_in N 9 (Dy.mono sy) hk
  have l := kqd_lay 9 d hk
  have e : PyData.eqv (kqdP d) (kqdP d) = true := (kqd_eqv 9 d d 9 hk hk).mpr rfl
  refine ne_dataH ra rb ?_ ?_ hu (by rw [e]; exact h)
  · unfold SeqAt.shaped; rw [l.1, Bool.true_and]; exact decide_eq_true (Nat.le_trans l.2 (by decide))
  · unfold SeqAt.shaped; rw [l.1, Bool.true_and]; exact decide_eq_true (Nat.le_trans l.2 (by decide))
end
def notNone (p : Addr × Obj) : Bool := match p.2.cls with | .none => false | _ => true
theorem notNone_of {p : Addr × Obj} (h : p.2.cls ≠ .none) : notNone p = true := by
  unfold notNone
  split
  · rename_i e; exact absurd e h
  · rfl
theorem apart_none {h₀ h : Heap} {L T : Addr} {ps : Array Value} {add rest : List (Addr × Obj)} (N : News h₀ L h (add ++ (T, tabObj ps) :: rest)) : ∀ p ∈ add.filter notNone, p.1 ≠ T := by
  intro p hp e
  obtain ⟨h1, h2⟩ := List.mem_filter.mp hp
  have a := (N p (List.mem_append.mpr (.inl h1))).1
  have b := (N (T, tabObj ps) (List.mem_append.mpr (.inr (List.Mem.head _)))).1
  rw [e, b] at a
  have e2 : p.2 = tabObj ps := (Option.some.inj a).symm
  unfold notNone at h2
  rw [e2] at h2
  exact Bool.false_ne_true h2
theorem tab_split {h₀ h : Heap} {L T : Addr} {ps : Array Value} {add rest : List (Addr × Obj)} (N : News h₀ L h (add ++ (T, tabObj ps) :: rest)) (hr : ∀ p ∈ rest, p.1 ≠ T) :
    ∃ news0, News h₀ L h ((T, tabObj ps) :: news0) ∧ (∀ p ∈ news0, p.1 ≠ T) ∧ (∀ p ∈ rest, p ∈ news0) ∧ ∀ p ∈ add ++ (T, tabObj ps) :: rest, p.2.cls ≠ .none → p ∈ news0 := by
  refine ⟨add.filter notNone ++ rest, cb_drop N ?_, ?_, fun p hp => List.mem_append.mpr (.inr hp), ?_⟩
  · intro p hp
    rcases List.mem_cons.mp hp with rfl | hp
    · exact List.mem_append.mpr (.inr (List.Mem.head _))
    rcases List.mem_append.mp hp with hp | hp
    · exact List.mem_append.mpr (.inl (List.mem_filter.mp hp).1)
    · exact List.mem_append.mpr (.inr (List.Mem.tail _ hp))
  · intro p hp
    rcases List.mem_append.mp hp with hp | hp
    · exact apart_none N p hp
    · exact hr p hp
  · intro p hp hne
    rcases List.mem_append.mp hp with hp | hp
    · exact List.mem_append.mpr (.inl (List.mem_filter.mpr ⟨hp, notNone_of hne⟩))
    rcases List.mem_cons.mp hp with rfl | hp
    · exact absurd rfl hne
    · exact List.mem_append.mpr (.inr hp)
theorem tab_base {h₀ h : Heap} {L T : Addr} {ps : Array Value} {full : List (Addr × Obj)} (N : News h₀ L h full) (hT : (T, tabObj ps) ∈ full) :
    ∃ base, News h₀ L h ((T, tabObj ps) :: base) ∧ (∀ p ∈ base, p.1 ≠ T) ∧ ∀ p ∈ full, p.2.cls ≠ .none → p ∈ base := by
  obtain ⟨b, h1, h2, _, h4⟩ := tab_split (add := full) (rest := []) (T := T) (ps := ps) (fun p hp => by
    rcases List.mem_append.mp hp with hp | hp
    · exact N p hp
    · rw [List.mem_singleton.mp hp]; exact N _ hT) (fun p hp => nomatch hp)
  exact ⟨b, h1, h2, fun p hp hne => h4 p (List.mem_append.mpr (.inl hp)) hne⟩
theorem two_sizes {a b : Int} {ta tb : Tok} {v : Value} {i : Nat} (hv : [Value.int (1 + a) ta, Value.int (1 + b) tb][i]? = some v) (ha : 0 ≤ a) (ha6 : a < 6) (hb : 0 ≤ b) (hb6 : b < 6) : ∃ (sz : Nat) (t : Tok), v = .int (sz : Int) t ∧ 1 ≤ sz ∧ sz ≤ 6 := by
  match i, hv with
  | 0, hv => cases hv; exact ⟨(1 + a).toNat, ta, by rw [Int.toNat_of_nonneg (by omega)], by omega, by omega⟩
  | 1, hv => cases hv; exact ⟨(1 + b).toNat, tb, by rw [Int.toNat_of_nonneg (by omega)], by omega, by omega⟩
theorem ring_ref {n : List (Addr × Obj)} {v : Value} {size step : Nat} (h : DatIn n v (ringD size step)) : ∃ a, v = .ref a := by
  unfold ringD at h
  cases h with
  | tuple h1 h2 => exact ⟨_, rfl⟩
theorem due_ref {n : List (Addr × Obj)} {v : Value} {ds : List Dat} (h : DatIn n v (Dat.list ds)) : ∃ a, v = .ref a := by
  cases h with
  | list h1 h2 => exact ⟨_, rfl⟩
theorem ringD_oks : ∀ size : Fin 6, kqdOk 9 (ringD (size.val + 1) 3) = true ∧ kqdOk 9 (ringD (size.val + 1) 5) = true := by decide +kernel
theorem ringD_ok {size step : Nat} (h1 : 1 ≤ size) (h6 : size ≤ 6) (hs : step = 3 ∨ step = 5) : kqdOk 9 (ringD size step) = true := by
  obtain ⟨k, rfl⟩ : ∃ k, size = k + 1 := ⟨size - 1, by omega⟩
  rcases hs with rfl | rfl
  · exact (ringD_oks ⟨k, by omega⟩).1
  · exact (ringD_oks ⟨k, by omega⟩).2
local macro_rules | `(tactic| walk_at "mine use 3") => `(tactic| (k_here; (with_reducible show wpAny _ _ (call (Value.ref 258) [Value.int _ _, Value.int _ _]) _ _ _); k_dflt ((refine' Con.use (ring_ok _ _ _ _ _ _ _ _ _ _ ?c1 ?c2 ?c3) ?k1 ?k2 ?k3 ?k4 ?k5 ?kK ?kd ?ku ?kr); (case k1 => k_asm); (case k2 => k_asm); (case k3 => k_asm); (case k4 => k_asm); (case k5 => k_asm); (case kK => first | exact rfl | assumption); (case kd => ktr_room); (case ku => ktr_units); (case c1 => assumption); (case c2 => assumption); (case c3 => assumption); intro v9 n9 h9 tk9 F9 N9 P9; (obtain ⟨add9, e9, d9⟩ := P9); (subst e9); (obtain ⟨a9, q9⟩ := ring_ref d9); (subst q9)); (try dsimp only); (try k_fold)))
local macro_rules | `(tactic| walk_at "call ref") => `(tactic| walk_at "mine use 3")
local macro_rules | `(tactic| walk_at "InvPostG") => `(tactic| dsimp only [InvPostG])
/-! the codes that are refused -/
def CodeL (l : List Nat) : Prop := l.length ≤ 3 ∧ 2 ≤ l.length ∧ (l ++ [32, 34, 34, 34, 34]).take 3 ≠ [50, 53, 55]
def CodeV (v : Value) : Prop := ∃ l t, v = .str (tx l) t ∧ CodeL l
theorem code_fig : ∀ i : Fin 10, i.val ≠ 7 → ∃ l, Str.ofString "25" ++ Str.ofString (toString ((0 : Int) + ((i.val : Nat) : Int))) = tx l ∧ CodeL l := by
  intro i hi
  have e : ∀ n : Nat, n < 10 → Str.ofString "25" ++ Str.ofString (toString ((0 : Int) + ((n : Nat) : Int))) = tx [50, 53, 48 + n] := by decide +kernel
  refine ⟨_, e i.val i.isLt, by simp, by simp, ?_⟩
  intro h
  simp at h
  omega
theorem code_fig' {i : Nat} (h : i < 10) (h7 : i ≠ 7) : ∃ l, Str.ofString "25" ++ Str.ofString (toString ((0 : Int) + (i : Int))) = tx l ∧ CodeL l := code_fig ⟨i, h⟩ h7
theorem code_three {a b c : Value} {ys : List Value} {ta tb tc : Tok} (ha : a = .str (Str.ofString "25") ta) (hb : b = .str (Str.ofString "157") tb) (hc : c = .str (Str.ofString "247") tc) (h : ∀ y ∈ ys, CodeV y) : ∀ y ∈ [a, b, c] ++ ys, CodeV y := by
  intro y hy
  simp only [List.cons_append, List.nil_append, List.mem_cons] at hy
  rcases hy with rfl | rfl | rfl | hy
  · exact ⟨[50, 53], ta, ha, by decide, by decide, by decide⟩
  · exact ⟨[49, 53, 55], tb, hb, by decide, by decide, by decide⟩
  · exact ⟨[50, 52, 55], tc, hc, by decide, by decide, by decide⟩
  · exact h y hy
theorem code_asked (l : List Nat) (c : Nat) : tx l ++ Str.ofString " \"\"\"\"" ++ Str.mk #[c] = tx (l ++ [32, 34, 34, 34, 34] ++ [c]) := by
  rw [show Str.ofString " \"\"\"\"" = tx [32, 34, 34, 34, 34] from by decide, show Str.mk #[c] = tx [c] from rfl, tx_app, tx_app]
theorem code_refused {l : List Nat} (h : CodeL l) (c : Nat) : (Txt.slice (tx (l ++ [32, 34, 34, 34, 34] ++ [c])) none (some 3) != Str.ofString "257") = true := by
  obtain ⟨h1, h2, h3⟩ := h
  show (Txt.slice (tx (l ++ [32, 34, 34, 34, 34] ++ [c])) none (some ((3 : Nat) : Int)) != Str.ofString "257") = true
  rw [slice_to (j := 3) (by rw [tx_len]; simp), tx_cps, show Str.ofString "257" = tx [50, 53, 55] from by decide, tx_bne, List.take_append_of_le_length (by simp)]
  exact decide_eq_true h3
/-! a loop that leaves the ledger as it was -/
def KeepJ (x : Str) (m₀ : Str → Option Value) (news : List (Addr × Obj)) (m : Str → Option Value) (nx : List (Addr × Obj)) : Prop := (∀ z, z ≠ x → m z = m₀ z) ∧ nx = news
section
variable {prog : Program} {w : World} {A : Around} {E : Value → Shared → Prop} {s : Shared} {env : Env} {h₀ : Heap} {x : Str} {body : List Stmt} {Q : Flow → Shared → Prop}
theorem iter_keep {ax : Addr} {vs : List Value} {nn : Nat} {m₀ : Str → Option Value} {news : List (Addr × Obj)} (hh : A.handled = none) (F : Fr h₀ env.locals s.heap m₀) (N : News h₀ env.locals s.heap news) (hm : (ax, listOf vs.toArray nn) ∈ news)
    (turn : ∀ (v : Value) (h : Heap) (tk : Nat) (own : List (Addr × Obj)), v ∈ vs → OwnOff own (news.map (·.1)) → Fr h₀ env.locals h (fun y => if y = x then some v else m₀ y) → News h₀ env.locals h (news ++ own) →
      wpAny (model prog w) A (execs body env) (InvPostG h₀ env.locals (fun m' nx => (ax, listOf vs.toArray nn) ∈ nx ∧ KeepJ x m₀ news m' nx) own { s with heap := h, toks := tk } Q) E { s with heap := h, toks := tk })
    (done : ∀ (u : Str → Option Value) h tk, Fr h₀ env.locals h (fun y => if y = x then u y else m₀ y) → News h₀ env.locals h news → Q .next { s with heap := h, toks := tk }) :
    wpAny (model prog w) A (pyIter (.ref ax)) (fun it s₂ => LoopAtV prog w A h₀ env x body Q E it s₂) E s := by
  refine kdl_iter (nn := nn) (fun _ m nx => KeepJ x m₀ news m nx) hh hm F N ⟨fun _ _ => rfl, rfl⟩ ?_ ?_
  · rintro i v m₁ nx h tk own hv hoff hmem ⟨h1, rfl⟩ F₁ N₁
    have e : (fun y => if y = x then some v else m₁ y) = (fun y => if y = x then some v else m₀ y) := by
      funext y
      by_cases hy : y = x
      · simp [hy]
      · simp [hy, h1 y hy]
    rw [e] at F₁
    exact turn v h tk own (List.mem_of_getElem? hv) hoff F₁ N₁
  · rintro m₁ nx h tk ⟨h1, rfl⟩ F₁ N₁
    have e : m₁ = (fun y => if y = x then m₁ y else m₀ y) := by
      funext y
      by_cases hy : y = x
      · simp [hy]
      · simp [hy, h1 y hy]
    rw [e] at F₁
    exact done m₁ h tk F₁ N₁
theorem keep_end {ax : Addr} {vs : List Value} {nn : Nat} {m₀ m' : Str → Option Value} {news own : List (Addr × Obj)} {L : Addr} {s₁ : Shared} {h' : Heap} {tk : Nat} (F : Fr h₀ L h' m') (N : News h₀ L h' (news ++ own)) (hm : (ax, listOf vs.toArray nn) ∈ news) (hoff : OwnOff own (news.map (·.1))) (hz : ∀ z, z ≠ x → m' z = m₀ z) :
    InvEndG h₀ L (fun m' nx => (ax, listOf vs.toArray nn) ∈ nx ∧ KeepJ x m₀ news m' nx) own s₁ { s₁ with heap := h', toks := tk } :=
  ⟨h', tk, m', news ++ own, news, rfl, F, N, fun p hp => List.mem_append.mpr (.inl hp), fun p hp => List.mem_append.mpr (.inr hp), hoff, hm, hz, rfl⟩
end
/-! the last questions -/
theorem ask1 (c : Nat) : Str.ofString "257" ++ Str.ofString " \"" ++ Str.ofString "\"\"\"" ++ Str.mk #[c] = tx [50, 53, 55, 32, 34, 34, 34, 34, c] := by
  rw [show Str.ofString "257" ++ Str.ofString " \"" ++ Str.ofString "\"\"\"" = tx [50, 53, 55, 32, 34, 34, 34, 34] from by decide, show Str.mk #[c] = tx [c] from rfl, tx_app]; rfl
theorem ask2 (c : Nat) : Str.ofString "257" ++ Str.ofString "-\"" ++ Str.ofString "\"\"\"" ++ Str.mk #[c] = tx [50, 53, 55, 45, 34, 34, 34, 34, c] := by
  rw [show Str.ofString "257" ++ Str.ofString "-\"" ++ Str.ofString "\"\"\"" = tx [50, 53, 55, 45, 34, 34, 34, 34] from by decide, show Str.mk #[c] = tx [c] from rfl, tx_app]; rfl
theorem ask3 (c : Nat) : Str.ofString "257" ++ Str.ofString " '" ++ Str.ofString "\"\"\"" ++ Str.mk #[c] = tx [50, 53, 55, 32, 39, 34, 34, 34, c] := by
  rw [show Str.ofString "257" ++ Str.ofString " '" ++ Str.ofString "\"\"\"" = tx [50, 53, 55, 32, 39, 34, 34, 34] from by decide, show Str.mk #[c] = tx [c] from rfl, tx_app]; rfl
theorem ask4 (c : Nat) : Str.ofString "257" ++ (Str.mk #[c] ++ Str.ofString " \"") ++ Str.ofString "\"\"\"" ++ Str.mk #[c] = tx [50, 53, 55, c, 32, 34, 34, 34, 34, c] := by
  rw [show Str.ofString "257" = tx [50, 53, 55] from by decide, show Str.ofString " \"" = tx [32, 34] from by decide, show Str.ofString "\"\"\"" = tx [34, 34, 34] from by decide, show Str.mk #[c] = tx [c] from rfl, tx_app, tx_app, tx_app, tx_app]; rfl
theorem say1 {c : Nat} (h : c ≠ 34) : p257 (tx [50, 53, 55, 32, 34, 34, 34, 34, c]).cps.toList = [34] := by rw [tx_cps]; simp [p257, scan, h]
theorem say2 {c : Nat} : p257 (tx [50, 53, 55, 45, 34, 34, 34, 34, c]).cps.toList = [] := by rw [tx_cps]; simp [p257]
theorem say3 {c : Nat} : p257 (tx [50, 53, 55, 32, 39, 34, 34, 34, c]).cps.toList = [] := by rw [tx_cps]; simp [p257]
theorem say4 {c : Nat} (h : c ≠ 32) : p257 (tx [50, 53, 55, c, 32, 34, 34, 34, 34, c]).cps.toList = [] := by rw [tx_cps]; simp [p257, h]
def AskOk (c : Nat) (o t : Str) : Prop := ∃ l, Str.ofString "257" ++ o ++ Str.ofString "\"\"\"" ++ Str.mk #[c] = tx l ∧ l.length ≤ 100 ∧ 5 ≤ l.length ∧ l.take 3 = [50, 53, 55] ∧ t = tx (p257 l) ∧ o.length ≤ 10
theorem askOk1 {c : Nat} (h : c ≠ 34) : AskOk c (Str.ofString " \"") (Str.ofString "\"") := ⟨_, ask1 c, by simp, by simp, by simp, by have := say1 h; rw [tx_cps] at this; rw [this]; decide, by decide⟩
theorem askOk2 {c : Nat} : AskOk c (Str.ofString "-\"") (Str.ofString "") := ⟨_, ask2 c, by simp, by simp, by simp, by have := @say2 c; rw [tx_cps] at this; rw [this]; decide, by decide⟩
theorem askOk3 {c : Nat} : AskOk c (Str.ofString " '") (Str.ofString "") := ⟨_, ask3 c, by simp, by simp, by simp, by have := @say3 c; rw [tx_cps] at this; rw [this]; decide, by decide⟩
theorem askOk4 {c : Nat} (h : c ≠ 32) : AskOk c (Str.mk #[c] ++ Str.ofString " \"") (Str.ofString "") := ⟨_, ask4 c, by simp, by simp, by simp, by have := say4 h; rw [tx_cps] at this; rw [this]; decide, by rw [show Str.mk #[c] = tx [c] from rfl, show Str.ofString " \"" = tx [32, 34] from by decide, tx_app, tx_len]; simp⟩
theorem ask_tup {h₀ h : Heap} {L I T1 T2 T3 T4 : Addr} {oI : Obj} {nl : List (Addr × Obj)} {c i n1 n2 n3 n4 : Nat} {v : Value} {a1 b1 a2 b2 a3 b3 a4 b4 : Tok} (h34 : c ≠ 34) (h32 : c ≠ 32) (_N : News h₀ L h ((I, oI) :: nl)) (hv : [Value.ref T1, .ref T2, .ref T3, .ref T4][i]? = some v)
    (h1 : (T1, ({ cls := .type "tuple", data := .seq #[Value.str (Str.ofString " \"") a1, Value.str (Str.ofString "\"") b1] n1 } : Obj)) ∈ nl) (h2 : (T2, ({ cls := .type "tuple", data := .seq #[Value.str (Str.ofString "-\"") a2, Value.str (Str.ofString "") b2] n2 } : Obj)) ∈ nl)
    (h3 : (T3, ({ cls := .type "tuple", data := .seq #[Value.str (Str.ofString " '") a3, Value.str (Str.ofString "") b3] n3 } : Obj)) ∈ nl) (h4 : (T4, ({ cls := .type "tuple", data := .seq #[Value.str (Str.mk #[c] ++ Str.ofString " \"") a4, Value.str (Str.ofString "") b4] n4 } : Obj)) ∈ nl) :
    ∃ T o t to tt nT, v = .ref T ∧ (T, ({ cls := .type "tuple", data := .seq #[Value.str o to, Value.str t tt] nT } : Obj)) ∈ nl ∧ AskOk c o t := by
  match i, hv with
  | 0, hv => cases hv; exact ⟨_, _, _, _, _, _, rfl, h1, askOk1 h34⟩
  | 1, hv => cases hv; exact ⟨_, _, _, _, _, _, rfl, h2, askOk2⟩
  | 2, hv => cases hv; exact ⟨_, _, _, _, _, _, rfl, h3, askOk3⟩
  | 3, hv => cases hv; exact ⟨_, _, _, _, _, _, rfl, h4, askOk4 h32⟩
theorem ask5 (c d : Nat) (t : List Nat) : Str.ofString "257 \"" ++ Str.mk #[c] ++ Str.ofString "\"\"" ++ tx [d] ++ tx t = tx ([50, 53, 55, 32, 34, c, 34, 34, d] ++ t) := by
  rw [show Str.ofString "257 \"" = tx [50, 53, 55, 32, 34] from by decide, show Str.ofString "\"\"" = tx [34, 34] from by decide, show Str.mk #[c] = tx [c] from rfl, tx_app, tx_app, tx_app, tx_app]; rfl
theorem ask6 (c d : Nat) : Str.mk #[c] ++ Str.ofString "\"" ++ tx [d] = tx [c, 34, d] := by
  rw [show Str.ofString "\"" = tx [34] from by decide, show Str.mk #[c] = tx [c] from rfl, tx_app, tx_app]; rfl
theorem say5 {c d : Nat} {t : List Nat} (hc : c ≠ 34) (hd : d ≠ 34) (ht : Tail t) : p257 (tx ([50, 53, 55, 32, 34, c, 34, 34, d] ++ t)).cps.toList = [c, 34, d] := by
  rw [tx_cps]
  show scan ([c, 34, 34, d] ++ t) [] = _
  rw [List.cons_append, scan_sign hc]
  show scan (34 :: 34 :: ([d] ++ t)) [c] = _
  have e : scan (34 :: 34 :: ([d] ++ t)) [c] = scan ([d] ++ t) ([c] ++ [34]) := by simp [scan]
  rw [e, List.cons_append, scan_sign hd, List.nil_append, scan_tail ht]; rfl
theorem up_letter {c : Nat} (h : 97 ≤ c ∧ c ≤ 122) : Txt.upper (Str.mk #[c]) = tx [c - 32] := by
  have e := upper_tx (l := [c]) (by intro b hb; rw [List.mem_singleton.mp hb]; omega)
  rw [show Str.mk #[c] = tx [c] from rfl, e]
  simp [up, h]
local macro_rules | `(tactic| walk_at "call builtin:str.upper") => `(tactic| (k_here; (try dsimp only); (refine PyProof.Rows.SCL.upper (Nat.le_of_ble_eq_true rfl) ?_); intro _))
theorem Con0.use {w : World} {loose : List Str} {mean : ExcName → Option Value} {mg mb : Str → Option Value} {f : Addr} {news : List (Addr × Obj)} {vs : List Value} {D : Nat} {Post : Value → List (Addr × Obj) → Prop}
    {dp un : Nat} {gd : Option (List Code)} {cn : Str} {cs : Scope} {a : Addr} {ccd : Value} {A₀ : Around} {base h₀ : Heap} {L : Addr} {m : Str → Option Value} {s : Shared} {Q E : Value → Shared → Prop}
    (c : Con0 w loose mean mg mb f news vs D Post) (B : Below A₀ base [] h₀) (F : Fr h₀ L s.heap m) (X : (Mine.heapK w.params).In h₀) (XB : (Mine.heapK w.params).In base) (N : News h₀ L s.heap news) (T : Top topProg loose mean mg mb h₀) (TB : Top topProg loose mean mg mb base) (hk : cs.kind = .function)
    (hd : dp + D < recursionLimit) (hu : un + 8 * D < cLine) (ret : ∀ v news' h' tk', Fr h₀ L h' m → News h₀ L h' news' → Post v news' → Q v { s with heap := h', toks := tk' }) :
    wpAny (model PySem.Challenge.rw_ux0026_01.row.prog w) { handled := none, depth := dp, frames := some [envOf cn cs L a ccd], guards := gd, units := un } (call (.ref f) vs) Q E s := c _ _ _ _ _ _ _ _ _ _ _ _ _ _ _ B F X XB N T TB hk hd hu ret
theorem tail_of {x : Str} (h : x = Str.ofString "" ∨ x = Str.ofString "\"" ∨ x = Str.ofString "\" a\"b") : ∃ t, x = tx t ∧ Tail t ∧ t.length ≤ 10 := by
  rcases h with rfl | rfl | rfl
  · exact ⟨[], rfl, .inl rfl, by decide⟩
  · exact ⟨[34], rfl, .inr ⟨[], rfl, trivial⟩, by decide⟩
  · exact ⟨[34, 32, 97, 34, 98], rfl, .inr ⟨[32, 97, 34, 98], rfl, by show (32 : Nat) ≠ 34; decide⟩, by decide⟩
theorem step_of {c : Int} (h0 : 0 ≤ c) (h2 : c < 2) : ∃ r st : Nat, 1 + c = (r : Int) ∧ (2 : Int) ^ (1 + c).toNat + 1 = (st : Int) ∧ (st = 3 ∨ st = 5) ∧ r = readingsOf st := by
  have : c = 0 ∨ c = 1 := by omega
  rcases this with rfl | rfl
  · exact ⟨1, 3, rfl, rfl, .inl rfl, rfl⟩
  · exact ⟨2, 5, rfl, rfl, .inr rfl, rfl⟩
local macro_rules | `(tactic| k_qdec) => `(tactic| with_reducible first | exact names_hd | exact imps_hd)
theorem law_all : PySem.Challenge.rw_ux0026_01.Holds := hd (by
  delta recLaw
  w_strict (k_go0; (all_goals try k_fold); repeat' ((fail_if_success (with_reducible show wpAny _ _ (call (Value.ref _) _) _ _ _)); first | (k_unfold; (try dsimp only)) | (k_end; wrow_close) | walk1 | (dsimp only; walk1) | (leave1; walk_say "STEP leave1"; try dsimp only) | fail "no step"))
  rename IntsAre _ _ => hI
  rename ¬ ((63 : Int) < _) => h63
  rename News _ _ _ [_, _] => lN
  rename_i lc _ _ l260
  k_dflt (refine' ConS.use (cells_ok _ _ _ _ _ _ _ _ _ _ _ [0, 5, 3, 23, 2] _ hI ?c1 ?c2 (by decide) (by decide) ?c3) ?k1 ?k2 ?k3 ?k4 ?k5 ?kK ?kS ?kd ?ku ?kr; (case k1 => k_asm); (case k2 => k_asm); (case k3 => k_asm); (case k4 => exact lN); (case k5 => k_asm); (case kK => first | exact rfl | assumption))
  case c1 => omega
  case c2 => exact .cons _ _ (.cons _ _ (.cons _ _ (.cons _ _ (.cons _ _ .nil))))
  case c3 => exact fun p hp => by rw [List.mem_singleton.mp hp]; exact Nat.ne_of_lt l260
  case kS => assumption
  case kd => first | ktr_room | decide
  case ku => first | ktr_units | decide
  intro v1 n1 h1 tk1 F1 N1 P1
  obtain ⟨e1, vs', ns', e2, hi', hlen⟩ := P1
  subst e1
  subst e2
  clear lN
  have hl5 : ns'.length = 5 := hlen
  have hl1000 : ns'.length ≤ 1000 := by omega
  have hf0 := fm_in (ns'.getD (Int.toNat 0) 0) (m := 2) (by decide)
  have hf1 := fm_in (ns'.getD (Int.toNat 1) 0) (m := 6) (by decide)
  have hf2 := fm_in (ns'.getD (Int.toNat 2) 0) (m := 6) (by decide)
  have hf3 := fm_in (ns'.getD (Int.toNat 3) 0) (m := 26) (by decide)
  have hf4 := fm_in (ns'.getD (Int.toNat 4) 0) (m := 3) (by decide)
  obtain ⟨hf0a, hf0b⟩ := hf0
  obtain ⟨hf1a, hf1b⟩ := hf1
  obtain ⟨hf2a, hf2b⟩ := hf2
  obtain ⟨hf3a, hf3b⟩ := hf3
  obtain ⟨hf4a, hf4b⟩ := hf4
  k_unmd
  try k_fold
  try dsimp only
  w_strict (repeat' ((fail_if_success (with_reducible show wpAny _ _ (call (Value.ref _) _) _ _ _)); first | (k_unfold; (try dsimp only)) | (k_end; wrow_close) | walk1 | (dsimp only; walk1) | (leave1; walk_say "STEP leave1"; try dsimp only) | fail "no step"))
  rename _ = Str.ofString "" ∨ _ => hx9
  obtain ⟨tl, hxt, htl, htl10⟩ := tail_of hx9
  obtain ⟨r, st, hr, hst, hst35, hrs⟩ := step_of hf0a hf0b
  rename Fr _ _ _ _ => lF
  rename News _ _ _ _ => lN
  rw [hst, hr, hxt] at lF
  rw [hst, hr, hxt]
  have hl97 : 97 ≤ (97 + (ns'.getD (Int.toNat 3) 0).fmod 26).toNat ∧ (97 + (ns'.getD (Int.toNat 3) 0).fmod 26).toNat ≤ 122 := by omega
  subst hrs
  generalize hcE : (97 + (ns'.getD (Int.toNat 3) 0).fmod 26).toNat = cL at hl97 lF ⊢
  have hflat := rows_flat hst35
  have hread : readingsOf st ≤ 10 := by unfold readingsOf; split <;> decide
  w_strict (repeat' ((fail_if_success (with_reducible show wpAny _ _ (compareOp _ (Value.ref _) (Value.ref _)) _ _ _)); first | (k_unfold; (try dsimp only)) | (k_end; wrow_close) | walk1 | (dsimp only; walk1) | (leave1; walk_say "STEP leave1"; try dsimp only) | fail "no step"))
  rename News _ _ _ _ => N8
  rename IntsAre _ (rangeKs _ _) => iR
  rename IntsAre _ (insAll _ _) => iO
  refine ke_ne_ints ⟨_, (N8 _ (.tail _ (.head _))).1, rfl, _, rfl⟩ ⟨_, (N8 _ (.head _)).1, rfl, _, rfl⟩ iO iR (by ktr_units) ?_
  rw [show (!decide (insAll [] ((List.range 6).map (rowF st (readingsOf st))).flatten = rangeKs 1 ((6 * (st : Int) + 1) - 1).toNat)) = false by rw [decide_eq_true (rows_ks hst35)]; rfl]
  clear iR
  w_strict (repeat' ((fail_if_success (with_reducible show wpAny _ _ (pyIter _) _ _ _)); first | (k_unfold; (try dsimp only)) | (k_end; wrow_close) | walk1 | (dsimp only; walk1) | (leave1; walk_say "STEP leave1"; try dsimp only) | fail "no step"))
  rename News _ _ _ _ => lN
  rename Fr _ _ _ _ => lF
  rename DatAll _ _ (List.map dints _) => dR
  obtain ⟨base, NB, hbT, hbI⟩ := tab_base lN (T := 260) (ps := #[]) (by k_mem)
  have hrows0 := rows_back (n' := base) dR fun p hp hne => hbI p (List.Mem.tail _ (List.Mem.tail _ (List.Mem.tail _ hp))) hne
  have hlr0 := hbI _ (List.Mem.tail _ (List.Mem.tail _ (List.Mem.tail _ (List.Mem.head _)))) (by nofun)
  with_unfolding_all refine' iter_tab (T := 260) (pos := lamPos) (qual := lamQual) base (by rfl) lF NB (hbI _ (List.Mem.head _) (by nofun)) hbT (.inl rfl) ?turn ?done
  case turn =>
    rintro i v h tk rest tps own hv hrT hok hsub hoff F N
    obtain ⟨sz, tz, rfl, hz1, hz6⟩ := two_sizes hv hf1a hf1b hf2a hf2b
    clear lF lN NB dR
    dsimp only at F N
    have hrows9 := hrows0.mono hsub
    have hlr9 := hsub _ hlr0
    k_unmd
    try k_fold
    try dsimp only
    w_strict (repeat' ((fail_if_success (with_reducible show wpAny _ _ (call (Value.ref _) _) _ _ _)); first | (k_unfold; (try dsimp only)) | (k_end; wrow_close) | walk1 | (dsimp only; walk1) | (leave1; walk_say "STEP leave1"; try dsimp only) | fail "no step"))
    walk_at "mine use 3"
    w_strict (repeat' ((fail_if_success (with_reducible show wpAny _ _ (call (Value.ref _) _) _ _ _)); first | (k_unfold; (try dsimp only)) | (k_end; wrow_close) | walk1 | (dsimp only; walk1) | (leave1; walk_say "STEP leave1"; try dsimp only) | fail "no step"))
    rename News _ _ _ _ => N9
    rename DatIn _ _ _ => dG
    rename Fr _ _ _ _ => F9
    obtain ⟨news0, N8, h0T, h0sub, h0I⟩ := tab_split N9 (fun p hp => (List.mem_append.mp hp).elim (hrT p) (fun h9 => hoff p h9 _ (List.Mem.head _)))
    have dG' := datIn_cls h0I dG
    have hok8 := hok.mono (fun p hp => h0sub p (List.mem_append.mpr (.inl hp)))
    have hr8 := hrows9.mono (fun p hp => List.mem_cons_of_mem (260, tabObj tps) (h0sub p (List.mem_append.mpr (.inl hp))))
    have hlr8 := List.mem_cons_of_mem (260, tabObj tps) (h0sub _ (List.mem_append.mpr (.inl hlr9)))
    clear N9 dG F
    k_dflt (refine' ConKH.use (due_ok _ _ _ _ _ _ sz st _ _ _ _ _ hz1 hz6 hst35 tps news0 rfl h0T hok8 hlr8 hr8) ?dk1 ?dk2 ?dk3 ?dk4 ?dk5 ?dkC ?dkK ?dkd ?dku ?dkr)
    case dk1 => k_asm
    case dk2 => exact F9
    case dk3 => k_asm
    case dk4 => exact N8
    case dk5 => k_asm
    case dkC => assumption
    case dkK => rfl
    case dkd => ktr_room
    case dku => ktr_units
    intro vD nD hD tkD FD ND PD
    obtain ⟨tps', add2, eD, hadd2, hnx, hdat⟩ := PD
    obtain ⟨ld, eD2⟩ := due_ref hdat
    subst eD
    subst eD2
    clear N8 F9
    k_unmd
    try k_fold
    try dsimp only
    w_strict (repeat' ((fail_if_success (with_reducible show wpAny _ _ (compareOp _ (Value.ref _) (Value.ref _)) _ _ _)); first | (k_unfold; (try dsimp only)) | (k_end; wrow_close) | walk1 | (dsimp only; walk1) | (leave1; walk_say "STEP leave1"; try dsimp only) | fail "no step"))
    rename News _ _ _ _ => N7
    refine dat_ne_same N7 dG' (fun p hp => List.Mem.tail _ (List.Mem.tail _ (List.Mem.tail _ (List.mem_append.mpr (.inr hp))))) (n2 := _ :: _ :: _ :: (add2 ++ news0)) ?dy (fun _ h9 => h9) (ringD_ok hz1 hz6 hst35) (by ktr_units) ?_
    case dy =>
      unfold ringD
      rw [ring_due' hz1 hz6 hst35]
      exact .tuple (List.Mem.head _) (.cons (hdat.mono fun p hp => List.Mem.tail _ (List.Mem.tail _ (List.Mem.tail _ hp))) (.one (.list (vs := []) (List.Mem.tail _ (List.Mem.head _)) .nil)))
    w_strict (repeat' (first | (k_unfold; (try dsimp only)) | (k_end; wrow_close) | walk1 | (dsimp only; walk1) | (leave1; walk_say "STEP leave1"; try dsimp only) | fail "no step"))
    rename News _ _ _ _ => N6
    refine tab_end (by assumption) N6 (List.Mem.tail _ (List.Mem.tail _ (List.Mem.head _))) ?s1 hnx (fun p hp => List.Mem.tail _ (List.Mem.tail _ (List.Mem.tail _ hp))) ?s2 (fun p hp => h0sub p hp) hrT hok hsub (hbI _ (List.Mem.head _) (by nofun)) hoff ?s3
    case s1 => exact fun p hp => List.Mem.tail _ (List.Mem.tail _ (List.Mem.tail _ (List.mem_append.mpr (.inr (h0sub p hp)))))
    case s2 => exact fun p hp => (List.mem_append.mp hp).elim (hadd2 p) (h0T p)
    case s3 =>
      intro z hz
      simp [hz]
  case done =>
    rintro u h tk rest tps hrT hok hsub F N
    clear lF lN NB dR
    clear hrows0 hlr0 hbI hbT
    dsimp only at F N
    k_unmd
    try k_fold
    try dsimp only
    w_strict (repeat' ((fail_if_success (with_reducible show wpAny _ _ (eval (Expr.ListComp _ _ _ _) _) _ _ _)); first | (k_unfold; (try dsimp only)) | (k_end; wrow_close) | walk1 | (dsimp only; walk1) | (leave1; walk_say "STEP leave1"; try dsimp only) | fail "no step"))
    refine PyProof.Rows.LCt.ListComp_T (F₀ := by k_asm) (by with_unfolding_all rfl) (by decide) (by rfl) (by decide) (by rfl) ?_
    w_strict (repeat' ((fail_if_success (with_reducible show PyProof.Rows.LCt.CompSrcT _ _ _ _ _ _ _ _ _ _ _ _ _ _ _)); first | (k_unfold; (try dsimp only)) | (k_end; wrow_close) | walk1 | (dsimp only; walk1) | (leave1; walk_say "STEP leave1"; try dsimp only) | fail "no step"))
    rename News _ _ _ _ => lN
    rename Fr _ _ _ _ => lF
    rename IsRange _ _ _ _ _ _ _ _ => rgX
    refine PyProof.Rows.LCt.CompSrcT.range (n := 10) (by rfl) lF lN rgX (small_one (by omega) (by omega) (by omega) (by omega)) (by exact rangeSize_nat _ _) (by rw [sizeLine_eq]; omega) ?_
    intro g2
    refine compT_J (fun i ys n' => n' = _ ∧ ys.length ≤ i ∧ ∀ y ∈ ys, CodeV y) ?turnC ?finC 10 0 [] _ (Nat.zero_add _) ⟨rfl, Nat.le_refl _, fun _ h9 => nomatch h9⟩
    case turnC =>
      rintro i ys n' hi ⟨rfl, hys1, hys2⟩ v I oI C oC D m₂ h tk' E' ⟨tv, rfl⟩ hC hx F' N' off ne
      clear lN lF
      k_unmd
      try k_fold
      try dsimp only
      w_strict (repeat' (first | (k_unfold; (try dsimp only)) | (k_end; wrow_close) | walk1 | (dsimp only; walk1) | (leave1; walk_say "STEP leave1"; try dsimp only) | fail "no step"))
      · rename ¬ _ = (7 : Int) => h7
        obtain ⟨l7, e7, c7⟩ := code_fig' hi (by omega)
        refine compEnd_same (by assumption) (by assumption) off trivial ⟨rfl, by rw [List.length_append]; simp; omega, ?_⟩
        intro y hy
        rcases List.mem_append.mp hy with hy | hy
        · exact hys2 y hy
        · rw [List.mem_singleton.mp hy]
          exact ⟨l7, _, congrArg (fun z => Value.str z _) e7, c7⟩
      · refine compEnd_same (by assumption) (by assumption) off trivial ⟨rfl, by omega, hys2⟩
    case finC =>
      rintro ys n' ⟨rfl, hys1, hys2⟩
      unfold PyProof.Rows.LCg.FinE
      intro D h' tk' F' N' o1
      clear lN lF
      have N8 : News _ _ h' ((D, listOf ys.toArray ys.length) :: _) := N'
      clear N'
      k_unmd
      try k_fold
      try dsimp only
      w_strict (repeat' ((fail_if_success (with_reducible show wpAny _ _ (binaryOp Operator.Add (Value.ref _) (Value.ref _)) _ _ _)); first | (k_unfold; (try dsimp only)) | (k_end; wrow_close) | walk1 | (dsimp only; walk1) | (leave1; walk_say "STEP leave1"; try dsimp only) | fail "no step"))
      rename Fr _ _ _ _ => lF
      refine kmk_add_lit (its := #[_, _, _]) (its2 := ys.toArray) (zs := [_, _, _] ++ ys) lF N8 ⟨_, (N8 _ (List.Mem.tail _ (List.Mem.head _))).1, rfl, _, rfl⟩ ⟨_, (N8 _ (List.Mem.head _)).1, rfl, _, rfl⟩ rfl ?_ (by rw [sizeLine_eq]; simp; omega)
      intro D2 h5 F5 N5 l5
      clear lF N8
      k_unmd
      k_unfold
      try dsimp only
      w_strict (repeat' ((fail_if_success (with_reducible show wpAny _ _ (pyIter _) _ _ _)); first | (k_unfold; (try dsimp only)) | (k_end; wrow_close) | walk1 | (dsimp only; walk1) | (leave1; walk_say "STEP leave1"; try dsimp only) | fail "no step"))
      rename Fr _ _ _ _ => lF
      rename News _ _ _ _ => lN
      with_unfolding_all refine' iter_keep (by rfl) lF lN (List.Mem.head _) ?turnR ?doneR
      case turnR =>
        intro v h tk own hv hoff F N
        obtain ⟨l, t, rfl, hl⟩ := code_three rfl rfl rfl hys2 v hv
        clear lF lN l5
        have hlt : (tx l).length ≤ 10 := by have := hl.1; rw [tx_len]; omega
        k_unmd
        try k_fold
        try dsimp only
        w_strict (repeat' ((fail_if_success (with_reducible show wpAny _ _ (call (Value.ref _) _) _ _ _)); first | (k_unfold; (try dsimp only)) | (k_end; wrow_close) | walk1 | (dsimp only; walk1) | (leave1; walk_say "STEP leave1"; try dsimp only) | fail "no step"))
        rw [code_asked]
        k_dflt (refine' Con0.use (refused_ok _ _ _ _ _ _ _ _ ?rc1 (code_refused hl cL)) ?rk1 ?rk2 ?rk3 ?rk3b ?rk4 ?rk5 ?rk5b ?rkK ?rkd ?rku ?rkr)
        case rc1 => have := hl.1; rw [tx_len]; simp; omega
        case rk1 => k_asm
        case rk2 => k_asm
        case rk3 => k_asm
        case rk3b => k_asm
        case rk4 => exact N
        case rk5 => k_asm
        case rk5b => k_asm
        case rkK => rfl
        case rkd => ktr_room
        case rku => ktr_units
        intro vR nR hR tkR FR NR PR
        obtain ⟨eR, eR2⟩ := PR
        subst eR
        subst eR2
        clear F N
        k_unmd
        try k_fold
        try dsimp only
        w_strict (repeat' (first | (k_unfold; (try dsimp only)) | (k_end; wrow_close) | walk1 | (dsimp only; walk1) | (leave1; walk_say "STEP leave1"; try dsimp only) | fail "no step"))
        refine keep_end (by assumption) (by assumption) (List.Mem.head _) hoff ?rz
        case rz => intro z hz; simp [hz]
      case doneR =>
        intro u2 h tk F N
        clear lF lN l5
        k_unmd
        try k_fold
        try dsimp only
        w_strict (repeat' ((fail_if_success (with_reducible show wpAny _ _ (pyIter _) _ _ _)); first | (k_unfold; (try dsimp only)) | (k_end; wrow_close) | walk1 | (dsimp only; walk1) | (leave1; walk_say "STEP leave1"; try dsimp only) | fail "no step"))
        rename News _ _ _ _ => lN
        rename Fr _ _ _ _ => lF
        with_unfolding_all refine' iter_same [Str.ofString "opening", Str.ofString "told"] (fun i => True) (by rfl) lF lN (List.Mem.head _) trivial ?turnS ?doneS
        case turnS =>
          rintro i v u h tk I oI hv - hoff F N
          have hi4 : i < 4 := (List.getElem?_eq_some_iff.mp hv).1
          have hcL : cL ≠ 34 ∧ cL ≠ 32 := by omega
          have hcc : (Str.mk #[cL]).length = 1 := rfl
          clear lF lN
          have hT := ask_tup hcL.1 hcL.2 N hv (List.Mem.tail _ (List.Mem.tail _ (List.Mem.tail _ (List.Mem.tail _ (List.Mem.head _))))) (List.Mem.tail _ (List.Mem.tail _ (List.Mem.tail _ (List.Mem.head _)))) (List.Mem.tail _ (List.Mem.tail _ (List.Mem.head _))) (List.Mem.tail _ (List.Mem.head _))
          obtain ⟨T9, o9, t9, to9, tt9, nT9, rfl, hT9, l9, ha9, hb9, hc9, hd9, he9, hf9⟩ := hT
          subst he9
          have hTup := News.isTup N (List.mem_cons_of_mem _ hT9)
          k_unmd
          try k_fold
          try dsimp only
          w_strict (repeat' ((fail_if_success (with_reducible show wpAny _ _ (call (Value.ref _) _) _ _ _)); first | (k_unfold; (try dsimp only)) | (k_end; wrow_close) | walk1 | (dsimp only; walk1) | (leave1; walk_say "STEP leave1"; try dsimp only) | fail "no step"))
          rw [ha9]
          have pq1 : (tx l9).length ≤ 1000 := by rw [tx_len]; omega
          have pq2 : 5 ≤ (tx l9).length := by rw [tx_len]; exact hc9
          have pq3 : (tx l9).cps.toList.take 3 = [50, 53, 55] := by rw [tx_cps]; exact hd9
          have hpar := fun (w9 : World) (lo9 : List Str) (me9 : ExcName → Option Value) (mg9 mb9 : Str → Option Value) (n9 : List (Addr × Obj)) (t9 : Tok) => parse_ok w9 lo9 me9 mg9 mb9 n9 (tx l9) t9 pq1 pq2 pq3
          rw [tx_cps] at hpar
          k_dflt (refine' Con.use (hpar _ _ _ _ _ _ _) ?pk1 ?pk2 ?pk3 ?pk4 ?pk5 ?pkK ?pkd ?pku ?pkr)
          case pk1 => k_asm
          case pk2 => k_asm
          case pk3 => k_asm
          case pk4 => k_asm
          case pk5 => k_asm
          case pkK => rfl
          case pkd => ktr_room
          case pku => ktr_units
          intro vP nP hP tkP FP NP PP
          obtain ⟨eP, tP, eP2⟩ := PP
          subst eP
          subst eP2
          k_unmd
          try k_fold
          try dsimp only
          w_strict (repeat' ((fail_if_success (with_reducible show wpAny _ _ (compareOp _ (Value.str _ _) (Value.str _ _)) _ _ _)); first | (k_unfold; (try dsimp only)) | (k_end; wrow_close) | walk1 | (dsimp only; walk1) | (leave1; walk_say "STEP leave1"; try dsimp only) | fail "no step"))
          k_unmd
          try k_unfold
          w_strict (walk1)
          rw [bne_self_eq_false]
          w_strict (repeat' (first | (k_unfold; (try dsimp only)) | (k_end; wrow_close) | walk1 | (dsimp only; walk1) | (leave1; walk_say "STEP leave1"; try dsimp only) | fail "no step"))
          refine endJ_same (by assumption) (by assumption) hoff ?hzS trivial
          case hzS => (intro z h3; simp only [List.contains_cons, List.contains_nil, Bool.or_false, Bool.or_eq_false_iff, beq_eq_false_iff_ne, ne_eq] at h3; simp [h3])
        case doneS =>
          rintro u3 h tk - F N
          clear lF lN
          have hcc : (Str.mk #[cL]).length = 1 := rfl
          have htt : (tx tl).length ≤ 10 := by rw [tx_len]; exact htl10
          k_unmd
          try k_fold
          try dsimp only
          w_strict (repeat' ((fail_if_success (with_reducible show wpAny _ _ (call (Value.ref _) _) _ _ _)); first | (k_unfold; (try dsimp only)) | (k_end; wrow_close) | walk1 | (dsimp only; walk1) | (leave1; walk_say "STEP leave1"; try dsimp only) | fail "no step"))
          rw [up_letter hl97, ask5]
          have pq1 : (tx ([50, 53, 55, 32, 34, cL, 34, 34, cL - 32] ++ tl)).length ≤ 1000 := by rw [tx_len]; simp; omega
          have pq2 : 5 ≤ (tx ([50, 53, 55, 32, 34, cL, 34, 34, cL - 32] ++ tl)).length := by rw [tx_len]; simp
          have pq3 : (tx ([50, 53, 55, 32, 34, cL, 34, 34, cL - 32] ++ tl)).cps.toList.take 3 = [50, 53, 55] := by rw [tx_cps]; rfl
          have hpar := fun (w9 : World) (lo9 : List Str) (me9 : ExcName → Option Value) (mg9 mb9 : Str → Option Value) (n9 : List (Addr × Obj)) (t9 : Tok) => parse_ok w9 lo9 me9 mg9 mb9 n9 (tx ([50, 53, 55, 32, 34, cL, 34, 34, cL - 32] ++ tl)) t9 pq1 pq2 pq3
          rw [say5 (by omega) (by omega) htl] at hpar
          k_dflt (refine' Con.use (hpar _ _ _ _ _ _ _) ?qk1 ?qk2 ?qk3 ?qk4 ?qk5 ?qkK ?qkd ?qku ?qkr)
          case qk1 => k_asm
          case qk2 => k_asm
          case qk3 => k_asm
          case qk4 => k_asm
          case qk5 => k_asm
          case qkK => rfl
          case qkd => ktr_room
          case qku => ktr_units
          intro vP nP hP tkP FP NP PP
          obtain ⟨eP, tP, eP2⟩ := PP
          subst eP
          subst eP2
          k_unmd
          try k_fold
          try dsimp only
          w_strict (repeat' ((fail_if_success (with_reducible show wpAny _ _ (compareOp _ (Value.str _ _) (Value.str _ _)) _ _ _)); first | (k_unfold; (try dsimp only)) | (k_end; wrow_close) | walk1 | (dsimp only; walk1) | (leave1; walk_say "STEP leave1"; try dsimp only) | fail "no step"))
          rw [up_letter hl97, ask6]
          k_unmd
          try k_unfold
          w_strict (walk1)
          rw [beq_self_eq_true]
          w_strict (repeat' (first | (k_unfold; (try dsimp only)) | (k_end; wrow_close) | walk1 | (dsimp only; walk1) | (leave1; walk_say "STEP leave1"; try dsimp only) | fail "no step")))
end
end Mine
theorem PySem.Challenge.cw_ux0026_01_holds : PySem.Challenge.rw_ux0026_01.Holds := by
  exact Mine.law_all
